/-
  THE WALK OF THE LAW (function 4): for every 16 bytes, mask, place and byte the call returns true and turns nothing that was there.
-/
import Derived.Test.Qxb6628166aUuid
import Derived.Laws.IdiomStrings
import Derived.Deep.WholeRow
namespace Go.Proofs.Qxb6628166a
open Go.RowKit

def cellsU (us : List Int) : Array Value := (us.map (Value.int .u8)).toArray
def cellsB (B : List UInt8) : Array Value := (B.map (fun x => Value.int .u8 (x.toNat : Int))).toArray

theorem heap_set_same (w : World) (b o : Nat) (v : Value) (c : Array Value) (t : TypeId) (f : Nat × Nat) (h : w.heap[b]? = some (.cells c t f)) :
    (w.setCell ⟨b, o, none⟩ v).heap[b]? = some (.cells (c.setIfInBounds o v) t f) := by
  simp [World.setCell, Array.getElem?_modify, h]
theorem heap_set_other (w : World) (b b' o : Nat) (v : Value) (h : b' ≠ b) : (w.setCell ⟨b, o, none⟩ v).heap[b']? = w.heap[b']? :=
  Below.heap_setCell w ⟨b, o, none⟩ v b' h
theorem cell_heap {w : World} {b : Nat} {c : Array Value} {t : TypeId} {f : Nat × Nat} (h : w.heap[b]? = some (.cells c t f)) (o : Nat) : w.cell? ⟨b, o, none⟩ = c[o]? := by
  simp [World.cell?, h]
theorem frozen_heap {w : World} {b : Nat} {c : Array Value} {t : TypeId} (h : w.heap[b]? = some (.cells c t (0, 0))) (o : Nat) : w.frozen? ⟨b, o, none⟩ = false := by
  simp [World.frozen?, h]

/-- The place of digit k, ahead of the dash that may come there. -/
def posOf (k : Nat) : Nat := k + (if 8 < k then 1 else 0) + (if 12 < k then 1 else 0) + (if 16 < k then 1 else 0) + (if 20 < k then 1 else 0)

/-- Behind k digits: u lies in its box, the text in its array; its first p bytes are of their places' classes. -/
def Txt (w wr : World) (us : List Int) (p : Nat) : Prop :=
  ∃ B : List UInt8, B.length = 36 ∧ wr.heap[w.heap.size]? = some (.cells (cellsU us) 23 (0, 0)) ∧ wr.heap[w.heap.size + 1]? = some (.cells (cellsB B) 25 (0, 0)) ∧
    (∀ (j : Nat) (h : j < B.length), j < p → okAt j (B[j].toNat : Int) = true) ∧ Below w.heap.size w wr

theorem Txt.start (w : World) (us : List Int) : Txt w ((w.alloc (.cells (cellsU us) 23)).alloc (.cells (cellsB (List.replicate 36 0)) 25)) us 0 := by
  have h1 : (w.alloc (.cells (cellsU us) 23)).heap.size = w.heap.size + 1 := by simp
  refine ⟨List.replicate 36 0, by simp, ?_, ?_, fun j _ h => by omega, ((Below.refl _ _).alloc (Nat.le_refl _) _).alloc (by omega) _⟩
  · rw [Below.heap_alloc _ _ _ (by omega)]
    exact heap_alloc_new w _
  · have := heap_alloc_new (w.alloc (.cells (cellsU us) 23)) (.cells (cellsB (List.replicate 36 0)) 25)
    rwa [h1] at this

theorem Txt.ucell {w wr : World} {us : List Int} {p : Nat} (h : Txt w wr us p) (j : Nat) (hj : j < us.length) : wr.cell? ⟨w.heap.size, j, none⟩ = some (.int .u8 us[j]) := by
  obtain ⟨B, _, h1, _⟩ := h
  rw [cell_heap h1]
  simp [cellsU, hj]

theorem Txt.bcell {w wr : World} {us : List Int} {p : Nat} (h : Txt w wr us p) (j : Nat) (hj : j < 36) : ∃ x, wr.cell? ⟨w.heap.size + 1, j, none⟩ = some (.int .u8 x) := by
  obtain ⟨B, hB, h1, h2, _⟩ := h
  refine ⟨((B[j]'(by omega)).toNat : Int), ?_⟩
  rw [cell_heap h2]
  simp [cellsB, hB, hj]

theorem Txt.bfree {w wr : World} {us : List Int} {p : Nat} (h : Txt w wr us p) (j : Nat) : wr.frozen? ⟨w.heap.size + 1, j, none⟩ = false := by
  obtain ⟨B, hB, h1, h2, _⟩ := h
  exact frozen_heap h2 j

theorem cellsB_set (B : List UInt8) (j : Nat) (x : Int) (h0 : 0 ≤ x) (h1 : x ≤ 255) : (cellsB B).setIfInBounds j (.int .u8 x) = cellsB (B.set j (UInt8.ofNat x.toNat)) := by
  unfold cellsB
  rw [List.setIfInBounds_toArray, List.map_set]
  have : ((UInt8.ofNat x.toNat).toNat : Int) = x := by simp; omega
  rw [this]

theorem Txt.put {w wr : World} {us : List Int} {p : Nat} (h : Txt w wr us p) (x : Int) (h0 : 0 ≤ x) (h1 : x ≤ 255) (hx : okAt p x = true) : Txt w (wr.setCell ⟨w.heap.size + 1, p, none⟩ (.int .u8 x)) us (p + 1) := by
  obtain ⟨B, hB, h2, h3, h4, h5⟩ := h
  refine ⟨B.set p (UInt8.ofNat x.toNat), by simpa using hB, ?_, ?_, ?_, h5.setCell (p := ⟨w.heap.size + 1, p, none⟩) (by simp) _⟩
  · rw [heap_set_other _ _ _ _ _ (by omega)]; exact h2
  · rw [heap_set_same _ _ _ _ _ _ _ h3, cellsB_set B p x h0 h1]
  · intro j hj hlt
    rw [List.getElem_set]
    split
    · rename_i e
      subst e
      have : ((UInt8.ofNat x.toNat).toNat : Int) = x := by simp; omega
      rw [this]; exact hx
    · exact h4 j (by simpa using hj) (by omega)

theorem pos_plain (n : Nat) (hn : n < 32) (h : dashAt (posOf n) = false) : posOf n < 36 ∧ posOf n ≠ 8 ∧ posOf n ≠ 13 ∧ posOf n ≠ 18 ∧ posOf n ≠ 23 ∧ posOf (n + 1) = posOf n + 1 := by
  have key : ∀ n : Fin 32, dashAt (posOf n.val) = false → posOf n.val < 36 ∧ posOf n.val ≠ 8 ∧ posOf n.val ≠ 13 ∧ posOf n.val ≠ 18 ∧ posOf n.val ≠ 23 ∧ posOf (n.val + 1) = posOf n.val + 1 := by decide
  exact key ⟨n, hn⟩ h
theorem pos_dash (n : Nat) (hn : n < 32) (h : dashAt (posOf n) = true) : n = 8 ∨ n = 12 ∨ n = 16 ∨ n = 20 := by
  have key : ∀ n : Fin 32, dashAt (posOf n.val) = true → n.val = 8 ∨ n.val = 12 ∨ n.val = 16 ∨ n.val = 20 := by decide
  exact key ⟨n, hn⟩ h
theorem ok_hex (p : Nat) (x : Int) (hp : dashAt p = false) (h : hexI x = true) : okAt p x = true := by rw [hex_at p x hp]; exact h
theorem low4 (u : Int) (h : 0 ≤ u ∧ u ≤ 255) : 0 ≤ bits .and .u8 u 15 ∧ bits .and .u8 u 15 ≤ 15 := by
  rw [u8_and u 15 h.1 (by omega) (by omega) (by omega)]
  have : u.toNat &&& (15 : Int).toNat ≤ (15 : Int).toNat := Nat.and_le_right
  have e : (15 : Int).toNat = 15 := rfl
  omega

theorem conv_any (B : List UInt8) (X : World) (b : Nat) (hB : B.length = 36) (h : X.heap[b]? = some (.cells (cellsB B) 25 (0, 0))) :
    (convert 29 9 (.slice (some ⟨b, 0, none⟩) 36 36)).run Try.prog X = .ok (.string ⟨B.toArray⟩) X := by
  have := run_convert_bytes_back (P := Try.prog) X 29 9 5 ⟨b, 0, none⟩ 36 B Try.underlying29 Try.underlying5 Try.underlying9 (by
    intro j hj
    rw [Addr.add_lit, Nat.zero_add, cell_heap h]
    simp [cellsB, hj])
  rw [hB] at this
  exact this

theorem dash_cases (i : Nat) (h : dashAt i = true) : i = 8 ∨ i = 13 ∨ i = 18 ∨ i = 23 := by
  unfold dashAt at h
  simp at h
  omega

theorem plain_ne (i : Nat) (h : dashAt i = false) : i ≠ 8 ∧ i ≠ 13 ∧ i ≠ 18 ∧ i ≠ 23 := by
  unfold dashAt at h
  simp at h
  omega

theorem uuid_is (s : ByteArray) (w : World) (v : Bool) (hs : s.size = 36) (hv : v = true ↔ AllOk s.data.toList) : Calls Try.prog 6 #[.string s] w fun e w' => e = .returned (.bool v) ∧ w' = w := by
  refine (zzUUID_any s w hs).mono ?_
  rintro e w' ⟨⟨r, rfl, hr⟩, rfl⟩
  refine ⟨ret_bool ?_, rfl⟩
  rw [Bool.eq_iff_iff, hr, hv]
theorem uuid_true (s : ByteArray) (w : World) (hs : s.size = 36) (h : AllOk s.data.toList) : Calls Try.prog 6 #[.string s] w fun e w' => e = .returned (.bool true) ∧ w' = w :=
  uuid_is s w true hs ⟨fun _ => h, fun _ => rfl⟩

theorem allOk_set (B : List UInt8) (i : Nat) (c : Int) (hB : B.length = 36) (hok : ∀ (j : Nat) (h : j < B.length), j < 36 → okAt j (B[j].toNat : Int) = true) (hc : 0 ≤ c ∧ c ≤ 255) (hi : i < 36) :
    okAt i c = true ↔ AllOk (B.set i (UInt8.ofNat c.toNat)) := by
  have hx : ((UInt8.ofNat c.toNat).toNat : Int) = c := by simp; omega
  constructor
  · intro h j hj
    rw [List.getElem_set]
    split
    · rename_i e; subst e; rw [hx]; exact h
    · have hj' : j < B.length := by simpa using hj
      exact hok j hj' (by omega)
  · intro h
    have := h i (by simp; omega)
    rw [List.getElem_set_self, hx] at this
    exact this

theorem end_facts (w wr : World) (B : List UInt8) (i : Nat) (c : Int) (hB : B.length = 36) (h1 : wr.heap[w.heap.size + 1]? = some (.cells (cellsB B) 25 (0, 0))) (hok : ∀ (j : Nat) (h : j < B.length), j < 36 → okAt j (B[j].toNat : Int) = true) (hbl : Below w.heap.size w wr) (hc : 0 ≤ c ∧ c ≤ 255) (hi : i < 36) :
    ∃ sB sM : ByteArray, (convert 29 9 (.slice (some ⟨w.heap.size + 1, 0, none⟩) 36 36)).run Try.prog (wr.alloc (.cells ((cellsB B).setIfInBounds i (.int .u8 c)) 25)) = .ok (.string sB) (wr.alloc (.cells ((cellsB B).setIfInBounds i (.int .u8 c)) 25)) ∧
      (convert 29 9 (.slice (some ⟨wr.heap.size, 0, none⟩) 36 36)).run Try.prog (wr.alloc (.cells ((cellsB B).setIfInBounds i (.int .u8 c)) 25)) = .ok (.string sM) (wr.alloc (.cells ((cellsB B).setIfInBounds i (.int .u8 c)) 25)) ∧
      (sB.size = 36 ∧ AllOk sB.data.toList) ∧ (sM.size = 36 ∧ (okAt i c = true ↔ AllOk sM.data.toList)) ∧ Below w.heap.size w (wr.alloc (.cells ((cellsB B).setIfInBounds i (.int .u8 c)) 25)) := by
  have hlt : w.heap.size + 1 < wr.heap.size := (Array.getElem?_eq_some_iff.1 h1).1
  rw [cellsB_set B i c hc.1 hc.2]
  refine ⟨⟨B.toArray⟩, ⟨(B.set i (UInt8.ofNat c.toNat)).toArray⟩, conv_any B _ _ hB ?_, conv_any _ _ _ (by simpa using hB) (heap_alloc_new wr _), ⟨?_, ?_⟩, ⟨?_, ?_⟩, hbl.alloc hbl.size _⟩
  · rw [Below.heap_alloc _ _ _ hlt]; exact h1
  · simpa [ByteArray.size] using hB
  · exact fun j hj => hok j hj (by have : j < B.length := hj; omega)
  · simpa [ByteArray.size] using hB
  · exact allOk_set B i c hB hok hc hi

theorem Try.size25 : (Try.prog.info? 25).map (·.size) = some 36 := by kernel_rfl
theorem hid3 {p : Prop} (h : p) : Hid p := h

set_option maxRecDepth 100000 in
set_option maxHeartbeats 1000000 in
theorem law (us : List Int) (mask c : Int) (i : Nat) (w : World) (hl : us.length = 16) (hu : ∀ x ∈ us, 0 ≤ x ∧ x ≤ 255) (hc : 0 ≤ c ∧ c ≤ 255) (hi36 : i < 36) :
    Calls Try.prog 4 #[.agg (cellsU us), .int .u32 mask, .int .u8 (i : Int), .int .u8 c] w fun e w' => e = .returned (.bool true) ∧ Below w.heap.size w w' := by
  have h36 : decide ((36 : Int) ≤ (i : Int)) = false := decide_eq_false (by omega)
  have HU : Hid (∀ x ∈ us, 0 ≤ x ∧ x ≤ 255) := hu
  have HL : Hid (us.length = 16) := hl
  clear hu hl
  go_enter Try.func4, Try.ntmps4
  go_wp2_with fail
  go_loopw [10, 11] (fun p k wr => ∃ n : Nat, n ≤ 32 ∧ k = .int .i64 n ∧ p = .int .i64 (posOf n) ∧ Hid (Txt w wr us (posOf n))) (fun _ k _ => 32 - (intOf k).toNat)
  case atStart => exact ⟨0, by omega, rfl, rfl, Txt.start w us⟩
  case round =>
    obtain ⟨n, hn, rfl, rfl, HT⟩ := hrel
    by_cases hlt : n < 32
    · cases hdash : dashAt (posOf n)
      · obtain ⟨hp36, q8, q13, q18, q23, hnext⟩ := pos_plain n hlt hdash
        have b8 : ((posOf n : Int) == 8) = false := by simp; omega
        have b13 : ((posOf n : Int) == 13) = false := by simp; omega
        have b18 : ((posOf n : Int) == 18) = false := by simp; omega
        have b23 : ((posOf n : Int) == 23) = false := by simp; omega
        obtain ⟨y, hy⟩ := HT.out.bcell (posOf n) hp36
        have fy := HT.out.bfree (posOf n)
        have hux := HT.out.ucell (n / 2) (by rw [HL.out]; omega)
        have hub := HU.out (us[n / 2]'(by rw [HL.out]; omega)) (List.getElem_mem _)
        generalize us[n / 2]'(by rw [HL.out]; omega) = u at *
        have HX : Hid (posOf (n + 1) = posOf n + 1) := hnext
        have HD : Hid (dashAt (posOf n) = false) := hdash
        clear hnext hdash q8 q13 q18 q23
        generalize posOf n = p at *
        have hlo := low4 u hub
        by_cases hev : n % 2 = 0
        · go_wp2_with fail
          refine (nibble_any _ _ _ (by omega) (by omega)).mono ?_
          rintro e w2 ⟨⟨x, rfl, hx0, hx1, hxh⟩, rfl⟩
          have HXH : Hid (hexI x = true) := hxh
          clear hxh
          go_wp2_with fail
          go_roundw
          case rel => exact ⟨n + 1, by omega, by go_num, by rw [HX.out]; go_num, by rw [HX.out]; exact HT.out.put x hx0 hx1 (ok_hex p x HD.out HXH.out)⟩
          case measure => simp [intOf]; omega
        · go_wp2_with fail
          refine (nibble_any _ _ _ (by omega) (by omega)).mono ?_
          rintro e w2 ⟨⟨x, rfl, hx0, hx1, hxh⟩, rfl⟩
          have HXH : Hid (hexI x = true) := hxh
          clear hxh
          go_wp2_with fail
          go_roundw
          case rel => exact ⟨n + 1, by omega, by go_num, by rw [HX.out]; go_num, by rw [HX.out]; exact HT.out.put x hx0 hx1 (ok_hex p x HD.out HXH.out)⟩
          case measure => simp [intOf]; omega
      · have hub := HU.out (us[n / 2]'(by rw [HL.out]; omega)) (List.getElem_mem _)
        have hux := HT.out.ucell (n / 2) (by rw [HL.out]; omega)
        generalize us[n / 2]'(by rw [HL.out]; omega) = u at *
        rcases pos_dash n hlt hdash with rfl | rfl | rfl | rfl
        · obtain ⟨y, hy⟩ := HT.out.bcell 8 (by omega)
          obtain ⟨y1, hy1⟩ := HT.out.bcell 9 (by omega)
          have fy := HT.out.bfree 8
          have fy1 := HT.out.bfree 9
          clear hdash
          have e1 : posOf 8 = 8 := rfl
          rw [e1] at HT ⊢
          clear e1
          go_wp2_with fail
          refine (nibble_any _ _ _ (by omega) (by omega)).mono ?_
          rintro e w2 ⟨⟨x, rfl, hx0, hx1, hxh⟩, rfl⟩
          have HXH : Hid (hexI x = true) := hxh
          clear hxh
          go_wp2_with fail
          go_roundw
          case rel => exact ⟨9, by omega, rfl, rfl, (HT.out.put 45 (by omega) (by omega) rfl).put x hx0 hx1 (ok_hex 9 x rfl HXH.out)⟩
          case measure => simp [intOf]
        · obtain ⟨y, hy⟩ := HT.out.bcell 13 (by omega)
          obtain ⟨y1, hy1⟩ := HT.out.bcell 14 (by omega)
          have fy := HT.out.bfree 13
          have fy1 := HT.out.bfree 14
          clear hdash
          have e1 : posOf 12 = 13 := rfl
          rw [e1] at HT ⊢
          clear e1
          go_wp2_with fail
          refine (nibble_any _ _ _ (by omega) (by omega)).mono ?_
          rintro e w2 ⟨⟨x, rfl, hx0, hx1, hxh⟩, rfl⟩
          have HXH : Hid (hexI x = true) := hxh
          clear hxh
          go_wp2_with fail
          go_roundw
          case rel => exact ⟨13, by omega, rfl, rfl, (HT.out.put 45 (by omega) (by omega) rfl).put x hx0 hx1 (ok_hex 14 x rfl HXH.out)⟩
          case measure => simp [intOf]
        · obtain ⟨y, hy⟩ := HT.out.bcell 18 (by omega)
          obtain ⟨y1, hy1⟩ := HT.out.bcell 19 (by omega)
          have fy := HT.out.bfree 18
          have fy1 := HT.out.bfree 19
          clear hdash
          have e1 : posOf 16 = 18 := rfl
          rw [e1] at HT ⊢
          clear e1
          go_wp2_with fail
          refine (nibble_any _ _ _ (by omega) (by omega)).mono ?_
          rintro e w2 ⟨⟨x, rfl, hx0, hx1, hxh⟩, rfl⟩
          have HXH : Hid (hexI x = true) := hxh
          clear hxh
          go_wp2_with fail
          go_roundw
          case rel => exact ⟨17, by omega, rfl, rfl, (HT.out.put 45 (by omega) (by omega) rfl).put x hx0 hx1 (ok_hex 19 x rfl HXH.out)⟩
          case measure => simp [intOf]
        · obtain ⟨y, hy⟩ := HT.out.bcell 23 (by omega)
          obtain ⟨y1, hy1⟩ := HT.out.bcell 24 (by omega)
          have fy := HT.out.bfree 23
          have fy1 := HT.out.bfree 24
          clear hdash
          have e1 : posOf 20 = 23 := rfl
          rw [e1] at HT ⊢
          clear e1
          go_wp2_with fail
          refine (nibble_any _ _ _ (by omega) (by omega)).mono ?_
          rintro e w2 ⟨⟨x, rfl, hx0, hx1, hxh⟩, rfl⟩
          have HXH : Hid (hexI x = true) := hxh
          clear hxh
          go_wp2_with fail
          go_roundw
          case rel => exact ⟨21, by omega, rfl, rfl, (HT.out.put 45 (by omega) (by omega) rfl).put x hx0 hx1 (ok_hex 24 x rfl HXH.out)⟩
          case measure => simp [intOf]
    · have hn32 : n = 32 := by omega
      subst hn32
      rw [show posOf 32 = 36 from rfl] at HT
      obtain ⟨B, hB, hh0, hh1, hok, hbl⟩ := HT.out
      have HOK : Hid (∀ (j : Nat) (h : j < B.length), j < 36 → okAt j (B[j].toNat : Int) = true) := hok
      have HB : Hid (B.length = 36) := hB
      have H1 : Hid (wr.heap[w.heap.size + 1]? = some (.cells (cellsB B) 25 (0, 0))) := hh1
      have hsz : (Try.prog.info? 25).map (·.size) = some (cellsB B).size := by
        rw [show (cellsB B).size = 36 by simp [cellsB, hB]]; exact Try.size25
      clear hok hB hh0 hh1 HT
      have hws : w.heap.size + 1 < wr.heap.size := by have := H1.out; exact (Array.getElem?_eq_some_iff.1 this).1
      have hone : (cellsB B).all (·.oneCell') = true := by simp [cellsB, Value.oneCell']
      have hcs : (cellsB B).size = 36 := by simp [cellsB, HB.out]
      have hst := fun (C : Array Value) (hC : C.size = 36) => run_storeCells_new (P := Try.prog) wr 25 C (cellsB B) hsz (by rw [hC, hcs]) hone
      have HSZ : Hid ((Try.prog.info? 25).map (·.size) = some (cellsB B).size) := hsz
      clear hone hsz
      obtain ⟨X, hX⟩ : ∃ X, X = wr.alloc (.cells ((cellsB B).setIfInBounds i (.int .u8 c)) 25) := ⟨_, rfl⟩
      have HXB := hid3 (end_facts w wr B i c HB.out H1.out HOK.out hbl hc hi36)
      rw [← hX] at HXB
      obtain ⟨sB, sM, kB, kM, hsB, hsM, hbX⟩ := HXB.out
      have cB := fun Y => uuid_true sB Y hsB.1 hsB.2
      have cM := fun Y => uuid_is sM Y _ hsM.1 hsM.2
      have CB := hid3 cB
      clear cB
      rw [hX] at kB kM hbX
      have HBX := hid3 hbX
      clear hbX HXB hX hsB hsM X
      by_cases hd : dashAt i = true
      · have hcases : i = 8 ∨ i = 13 ∨ i = 18 ∨ i = 23 := dash_cases i hd
        have hv : okAt i c = (c == 45) := by unfold okAt; rw [if_pos hd]
        rw [hv] at cM
        have CM := hid3 cM
        clear cM hv hd
        rcases hcases with rfl | rfl | rfl | rfl
        all_goals
          go_wp2_with (refine wpList_load_row rfl 25 _ rfl (w.heap.size + 1) rfl 25 (cellsB B) (0, 0) _ H1.out Try.underlying25 rfl HSZ.out ?_)
          refine (CB.out _).mono ?_
          rintro e w3 ⟨rfl, rfl⟩
          go_wp2_with fail
          refine (CM.out _).mono ?_
          rintro e w4 ⟨rfl, rfl⟩
          go_wp2_with fail
          go_ret
          exact ⟨rfl, HBX.out⟩
      · have hdf : dashAt i = false := by simpa using hd
        have hv : okAt i c = hexI c := hex_at i c hdf
        rw [hv] at cM
        have CM := hid3 cM
        have q := plain_ne i hdf
        have b8 : ((i : Int) == 8) = false := by simp; omega
        have b13 : ((i : Int) == 13) = false := by simp; omega
        have b18 : ((i : Int) == 18) = false := by simp; omega
        have b23 : ((i : Int) == 23) = false := by simp; omega
        clear cM hv hd hdf q
        go_wp2_with (refine wpList_load_row rfl 25 _ rfl (w.heap.size + 1) rfl 25 (cellsB B) (0, 0) _ H1.out Try.underlying25 rfl HSZ.out ?_)
        refine (inHex_any _ _).mono ?_
        rintro e w3 ⟨rfl, hw3⟩
        have hw4 := hw3.symm
        clear hw3
        subst hw4
        go_wp2_with fail
        refine (CB.out _).mono ?_
        rintro e w3 ⟨rfl, hw3⟩
        have hw4 := hw3.symm
        clear hw3
        subst hw4
        go_wp2_with fail
        refine (CM.out _).mono ?_
        rintro e w3 ⟨rfl, hw3⟩
        have hw4 := hw3.symm
        clear hw3
        subst hw4
        go_wp2_with fail
        go_ret
        exact ⟨rfl, HBX.out⟩

/-- i at least 36: true at once. -/
theorem law_far (us : List Int) (mask i c : Int) (w : World) (hi : ¬ i < 36) :
    Calls Try.prog 4 #[.agg (cellsU us), .int .u32 mask, .int .u8 i, .int .u8 c] w fun e w' => e = .returned (.bool true) ∧ Below w.heap.size w w' := by
  have h36 : decide (36 ≤ i) = true := decide_eq_true (by omega)
  go_enter Try.func4, Try.ntmps4
  go_wp2_with fail
  go_ret
  exact ⟨rfl, (Below.refl _ _).alloc (Nat.le_refl _) _⟩

theorem law_any (us : List Int) (mask i c : Int) (w : World) (hl : us.length = 16) (hu : ∀ x ∈ us, 0 ≤ x ∧ x ≤ 255) (hi : 0 ≤ i) (hc : 0 ≤ c ∧ c ≤ 255) :
    Calls Try.prog 4 #[.agg (cellsU us), .int .u32 mask, .int .u8 i, .int .u8 c] w fun e w' => e = .returned (.bool true) ∧ Below w.heap.size w w' := by
  by_cases h : i < 36
  · obtain ⟨n, rfl⟩ : ∃ n : Nat, i = (n : Int) := ⟨i.toNat, by omega⟩
    exact law us mask c n w hl hu hc (by omega)
  · exact law_far us mask i c w h

end Go.Proofs.Qxb6628166a
