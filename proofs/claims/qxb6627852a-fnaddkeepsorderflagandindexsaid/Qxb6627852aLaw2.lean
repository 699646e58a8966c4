/-
  THE WALK OF THE SECOND LAW (function 4): for every slice of strings the call returns true and turns nothing that was there.
-/
import Derived.Test.Qxb6627852aSt2
import Derived.Deep.DeepCutAuto
import Derived.Deep.CutBlock
namespace Go.Proofs.Qxb6627852a
open Go.RowKit Go.Maps

theorem hid2 {p : Prop} (h : p) : Hid p := h

theorem desc_start (ks : List ByteArray) (len : Nat) : descTo ks (min 1 len) = false := by
  by_cases h : len = 0
  · subst h; rfl
  · rw [Nat.min_eq_left (by omega)]; exact descTo_one ks

def R5 (w wr : World) (m : Nat) (ks : List ByteArray) : Prop := wr.cell? ⟨w.heap.size, 2, none⟩ = some (.map (some m)) ∧ Ix wr m ks.length (idxD ks) ∧ Below w.heap.size w wr
theorem R5.alike {w X Y : World} {m : Nat} {ks : List ByteArray} (h : R5 w X m ks) (hh : Y.heap = X.heap) (ho : Y.os = X.os) (ht : Y.tape = X.tape) (hp : Y.output = X.output) : R5 w Y m ks := by
  obtain ⟨h1, h2, hb⟩ := h
  refine ⟨by unfold World.cell? at h1 ⊢; rw [hh]; exact h1, by unfold Ix World.ownsMap at h2 ⊢; rw [hh]; exact h2, ⟨ho.trans hb.os, ht.trans hb.tape, hp.trans hb.output, by rw [hh]; exact hb.size, fun k a => by rw [hh]; exact hb.block k a⟩⟩

def NoneAbove (ks : List ByteArray) (k q : Nat) : Prop := ∀ (i : Nat) (hi : i < ks.length) (hk : k < ks.length), q < i → ks[i] ≠ ks[k]
def Last (ks : List ByteArray) (k p : Nat) : Prop := k ≤ p ∧ (∃ (hp : p < ks.length) (hk : k < ks.length), ks[p] = ks[k]) ∧ NoneAbove ks k p

theorem str_eq {a b : ByteArray} (h : (a.toList == b.toList) = true) : a = b := by
  rw [ByteArray.toList_eq, ByteArray.toList_eq] at h
  exact kl_inj (by unfold kl; rw [eq_of_beq h])
theorem str_ne {a b : ByteArray} (h : (a.toList == b.toList) = false) : a ≠ b := by
  intro e; subst e; simp at h

theorem none_step {ks : List ByteArray} {k q : Nat} (h : NoneAbove ks k q) (hq : q < ks.length) (hk : k < ks.length) (hne : ks[q] ≠ ks[k]) : NoneAbove ks k (q - 1) := by
  intro i hi hk' hlt
  by_cases e : i = q
  · subst e; exact hne
  · exact h i hi hk' (by omega)

theorem idx_at {ks : List ByteArray} {k p : Nat} (h : Last ks k p) (hk : k < ks.length) : Maps.has (idxD ks) (kl ks[k]) = true ∧ ∀ z, (idxD ks).atKey (kl ks[k]) z = .lit (.int .i32 (p : Int)) := by
  obtain ⟨h1, ⟨hp, _, h2⟩, h3⟩ := h
  have hm : ks[k] ∈ ks.take ks.length := by rw [List.take_length]; exact List.getElem_mem hk
  refine ⟨?_, fun z => ?_⟩
  · have := (has_take ks ks[k] ks.length (Nat.le_refl _)).2 hm
    rwa [List.take_length] at this
  · obtain ⟨j, hj, _, e1, e2, e3⟩ := at_take ks ks[k] z ks.length (Nat.le_refl _) hm
    rw [List.take_length] at e3
    have hjp : j = p := by
      rcases Nat.lt_trichotomy j p with h | h | h
      · exact absurd h2 (e2 p hp h hp)
      · exact h
      · exact absurd e1 (h3 j hj hk h)
    rw [e3, hjp]

theorem get_round (w wr : World) (m : Nat) (ks : List ByteArray) (k p : Nat) (hk : k < ks.length) (hf : ks[k].size ≤ maxLen) (hL : Last ks k p) (hR : R5 w wr m ks) :
    Calls Try.prog 16 #[.pointer (some ⟨w.heap.size, 0, none⟩), .string ks[k]] wr fun e w' => e = .returned (.tuple #[.int .i32 (p : Int), .bool true]) ∧ w' = wr := by
  obtain ⟨h1, h2⟩ := idx_at hL hk
  refine (indexGet wr w.heap.size m ks.length ks[k] (idxD ks) hf hR.1 hR.2.1).mono ?_
  rintro e w' ⟨⟨c, rfl, h3, _⟩, rfl⟩
  rw [h2] at h3
  injection h3 with h3
  injection h3 with _ h3
  subst h3
  exact ⟨by rw [h1], rfl⟩

set_option maxRecDepth 100000 in
set_option maxHeartbeats 1000000 in
theorem law2 (w : World) (ka : Option Addr) (len cap : Nat) (ks : List ByteArray) (b off : Nat) (hk : KeyAt w ka len ks b off) :
    Calls Try.prog 4 #[.slice ka len cap] w fun e w' => e = .returned (.bool true) ∧ Below w.heap.size w w' := by
  have HK : Hid (KeyAt w ka len ks b off) := hk
  clear hk
  by_cases h4 : (4096 : Int) < (len : Int)
  · go_enter Try.func4, Try.ntmps4
    go_wp2_with (go_at_call 13; refine (guard13 w ka len cap ks b off HK.out).mono ?_; rintro e w' ⟨⟨r, rfl⟩, rfl⟩; cases r)
    all_goals (go_ret; exact ⟨rfl, Below.refl _ _⟩)
  · go_enter Try.func4, Try.ntmps4
    go_wp2_with (go_at_call 13; refine (guard13 w ka len cap ks b off HK.out).mono ?_; rintro e w' ⟨⟨r, rfl⟩, hw'⟩; have hw2 := hw'.symm; clear hw'; subst hw2; cases r)
    · go_ret; exact ⟨rfl, Below.refl _ _⟩
    go_loop [3, 4] (fun z i => ∃ (k : Nat) (t : Int), k ≤ len ∧ i = .int .i64 k ∧ z = .int .i64 t) (fun _ i => len - (intOf i).toNat)
    case atStart => exact ⟨0, 0, Nat.zero_le _, rfl, rfl⟩
    case round =>
      obtain ⟨k, t, hkl, rfl, rfl⟩ := hrel
      by_cases hlt : k < len
      · have hks : k < ks.length := by rw [HK.out.hlen]; exact hlt
        have hc := HK.out.cell k hks
        obtain ⟨s, hs⟩ : ∃ s, s = ks[k] := ⟨_, rfl⟩
        rw [← hs] at hc
        clear hs
        obtain rfl := HK.out.at_ (by omega)
        go_wp2
        · go_ret
          exact ⟨rfl, Below.refl _ _⟩
        · go_round
          case rel => exact ⟨k + 1, _, by omega, by go_num, rfl⟩
          case measure => simp [intOf]; omega
      · go_wp2_with (go_at_call 6; refine (newTable _).mono ?_; rintro e w1 ⟨rfl, hw1⟩; have HW := hid2 hw1; clear hw1)
        go_loopw [6] (fun i wr => ∃ k : Nat, k ≤ len ∧ i = .int .i64 k ∧ Hid (L2 w wr ks k)) (fun i _ => len - (intOf i).toNat)
        case atStart => exact ⟨0, Nat.zero_le _, rfl, by rw [HW.out]; exact L2.start w ks⟩
        case round =>
          clear hkl hlt
          obtain ⟨k, hkl, rfl, HL⟩ := hrel
          by_cases hlt : k < len
          · have hks : k < ks.length := by rw [HK.out.hlen]; exact hlt
            have hc := (HK.out.below HL.out.2 (Nat.le_refl _)).cell k hks
            obtain ⟨s, hs⟩ : ∃ s, s = ks[k] := ⟨_, rfl⟩
            rw [← hs] at hc
            have HA := hid2 (add_round2 w wr ks k hks (by have := HK.out.hlen; omega) HK.out.fits HL.out s hs)
            clear hs
            obtain rfl := HK.out.at_ (by omega)
            go_wp2_with fail
            refine HA.out.mono ?_
            rintro e w2 ⟨⟨v, rfl⟩, HM⟩
            clear HA
            go_wp2_with fail
            go_roundw
            case rel => exact ⟨k + 1, by omega, by go_num, HM⟩
            case measure => simp [intOf]; omega
          · have hke : k = ks.length := by have := HK.out.hlen; omega
            rw [hke] at HL
            clear hke
            obtain ⟨a, c, mv, c0, c1, c2, hg, hmp⟩ := HL.out.reads
            rw [HK.out.hlen] at c0
            obtain ⟨wx, rfl⟩ : ∃ wx : World, wx = wr := ⟨_, rfl⟩
            clear c1 c2 hg hmp
            go_wp2_with fail
            refine (len_any wx _ len c _ c0).mono ?_
            rintro e w3 ⟨rfl, hw3⟩
            have hw4 := hw3.symm
            clear hw3
            subst hw4
            clear c0
            go_wp2_with fail
            go_loopw [7] (fun i wr => ∃ k : Nat, k ≤ len ∧ i = .int .i64 k ∧ Hid (L2 w wr ks ks.length)) (fun i _ => len - (intOf i).toNat)
            case atStart => exact ⟨0, Nat.zero_le _, rfl, HL.out⟩
            case round =>
              clear HL
              obtain ⟨i, hil, rfl, HL⟩ := hrel
              by_cases hlt : i < len
              · have hks : i < ks.length := by rw [HK.out.hlen]; exact hlt
                have hc := (HK.out.below HL.out.2 (Nat.le_refl _)).cell i hks
                obtain ⟨a, c, mv, c0, c1, c2, hg, hmp⟩ := HL.out.reads
                rw [HK.out.hlen] at c0
                obtain ⟨g, rfl, hcs⟩ := hg (by omega)
                have v0 := hcs i hks
                clear hcs hg hmp c1 c2
                generalize ks[i] = s at *
                clear hks
                obtain rfl := HK.out.at_ (by omega)
                have hi1 : (i : Int) < (len : Int) := by omega
                go_wp2_with fail
                go_quiet ((go_at_call 12; exact Calls.quiet_of_same (entryKey _ _ g len c i s (by exact c0) hlt (by exact v0))))
                go_wp2_with fail
                go_roundw
                case rel => exact ⟨i + 1, by omega, by go_num, HL.out.alike rfl rfl rfl rfl⟩
                case measure => simp [intOf]; omega
              · obtain ⟨wy, rfl⟩ : ∃ wy : World, wy = wr := ⟨_, rfl⟩
                go_wp2_with fail
                go_loopw [8, 9] (fun d i wr => ∃ k : Nat, 1 ≤ k ∧ (k ≤ len ∨ k = 1) ∧ i = .int .i64 k ∧ Hid (d = .bool (descTo ks (min k len))) ∧ Hid (L2 w wr ks ks.length)) (fun _ i _ => len - (intOf i).toNat)
                case atStart => exact ⟨1, by omega, by omega, rfl, by rw [desc_start]; rfl, HL.out⟩
                case round =>
                  clear HL hlt hil
                  obtain ⟨k, hk1, hk2, rfl, hd, HL⟩ := hrel
                  by_cases hlt : k < len
                  · have hks : k < ks.length := by rw [HK.out.hlen]; exact hlt
                    have hc := (HK.out.below HL.out.2 (Nat.le_refl _)).cell k hks
                    have hc1 := (HK.out.below HL.out.2 (Nat.le_refl _)).cell (k - 1) (by omega)
                    have HD : Hid (descTo ks (k + 1) = (descTo ks k || Op.bytesLess ks[k].toList (ks[k - 1]'(by omega)).toList)) := descTo_step ks k (by omega) hks
                    generalize ks[k] = s at *
                    generalize ks[k - 1]'(by omega) = s1 at *
                    obtain rfl := HK.out.at_ (by omega)
                    have hdd := hd.out
                    rw [Nat.min_eq_left (by omega)] at hdd
                    subst hdd
                    clear hd
                    generalize hdk : descTo ks k = dk at *
                    have HDK : Hid (descTo ks k = dk) := hdk
                    clear hdk
                    have hw1 : IntKind.i64.wrap ((k : Int) - 1) = (k : Int) - 1 := by rw [IntKind.wrap_i64]; omega
                    have ht1 : ((k : Int) - 1).toNat = k - 1 := by omega
                    have hi1 : (k : Int) < (len : Int) := by omega
                    have hi2 : (0 : Int) ≤ (k : Int) - 1 := by omega
                    have hi3 : (k : Int) - 1 < (len : Int) := by omega
                    cases hl : Op.bytesLess s.toList s1.toList
                    all_goals
                      go_wp2_with fail
                      go_quiet (fail)
                      go_wp2_with fail
                    · go_roundw
                      case rel => exact ⟨k + 1, by omega, by omega, by go_num, by rw [Nat.min_eq_left (by omega), HD.out, hl]; simp [Hid], HL.out.alike rfl rfl rfl rfl⟩
                      case measure => simp [intOf]; omega
                    · go_roundw
                      case rel => exact ⟨k + 1, by omega, by omega, by go_num, by rw [Nat.min_eq_left (by omega), HD.out, hl]; simp [Hid], HL.out.alike rfl rfl rfl rfl⟩
                      case measure => simp [intOf]; omega
                  · have hdd := hd.out
                    rw [Nat.min_eq_right (by omega), ← HK.out.hlen] at hdd
                    subst hdd
                    clear hd
                    obtain ⟨a, c, mv, c0, c1, c2, hg, hmp⟩ := HL.out.reads
                    clear c0 hg
                    obtain ⟨wz, rfl⟩ : ∃ wz : World, wz = wr := ⟨_, rfl⟩
                    have HM := hid2 hmp
                    clear hmp
                    generalize descTo ks ks.length = D at *
                    go_wp2_with fail
                    refine (unsortedOf wz _ D c1).mono ?_
                    rintro e w3 ⟨rfl, hw3⟩
                    have hw4 := hw3.symm
                    clear hw3
                    subst hw4
                    rcases HM.out with ⟨rfl, h8⟩ | ⟨m, rfl, h8, rfl, hown⟩
                    · have hwant : (decide ((8 : Int) < (len : Int)) && D) = false := by
                        rcases h8 with h | h
                        · rw [HK.out.hlen] at h; rw [decide_eq_false (by omega)]; rfl
                        · rw [h]; simp
                      clear h8
                      by_cases h9 : (8 : Int) < (len : Int)
                      · rw [decide_eq_true h9] at hwant
                        have hDf : D = false := by simpa using hwant
                        subst hDf
                        have hd9 := decide_eq_true h9
                        go_wp2_with fail
                        refine (indexIsNil wz _ none c2).mono ?_
                        rintro e w3 ⟨rfl, rfl⟩
                        go_wp2_with fail
                        go_ret
                        exact ⟨rfl, HL.out.2⟩
                      · have hd9 := decide_eq_false h9
                        cases D
                        all_goals
                          go_wp2_with fail
                          refine (indexIsNil wz _ none c2).mono ?_
                          rintro e w3 ⟨rfl, rfl⟩
                          go_wp2_with fail
                          go_ret
                          exact ⟨rfl, HL.out.2⟩
                    · have HO : Hid (Ix wz m ks.length (idxD ks)) := hown
                      clear hown HM
                      rw [HK.out.hlen] at h8
                      have h9 : (8 : Int) < (len : Int) := by omega
                      have hd9 := decide_eq_true h9
                      go_wp2_with fail
                      refine (indexIsNil wz _ (some m) c2).mono ?_
                      rintro e w3 ⟨rfl, hw3⟩
                      have hw4 := hw3.symm
                      clear hw3
                      subst hw4
                      go_wp2_with fail
                      have HR : Hid (R5 w wz m ks) := ⟨c2, HO.out, HL.out.2⟩
                      clear c2 c1 HO HL hlt
                      go_loopw [11, 12] (fun ds i wr => ∃ k : Nat, k ≤ len ∧ i = .int .i64 k ∧ ds = .int .i64 (cnt ks k) ∧ Hid (R5 w wr m ks)) (fun _ i _ => len - (intOf i).toNat)
                      case atStart => exact ⟨0, Nat.zero_le _, rfl, rfl, HR.out⟩
                      case round =>
                        clear HR
                        obtain ⟨k, hkl, rfl, rfl, HR⟩ := hrel
                        obtain ⟨wv, rfl⟩ : ∃ wv : World, wv = wr := ⟨_, rfl⟩
                        have hcb := cnt_le ks k
                        by_cases hlt : k < len
                        · go_upto_block 10 with fail
                          have hks : k < ks.length := by rw [HK.out.hlen]; exact hlt
                          go_cut [13, 14] from 103 to 149 (fun lp _ wx => ∃ p : Nat, lp = .int .i64 p ∧ p < len ∧ Hid (Last ks k p) ∧ Hid (R5 w wx m ks))
                          case first =>
                            go_wp2_with fail
                            go_loopw [13, 14] (fun lp j wr => lp = .int .i64 k ∧ ∃ q : Nat, k ≤ q ∧ q < len ∧ j = .int .i64 q ∧ Hid (NoneAbove ks k q) ∧ Hid (R5 w wr m ks)) (fun _ j _ => (intOf j).toNat)
                            case atStart => exact ⟨rfl, len - 1, by omega, by omega, by rw [show ((len - 1 : Nat) : Int) = (len : Int) - 1 by omega], fun i hi _ h1 => by have := HK.out.hlen; omega, HR.out⟩
                            case round =>
                              clear HR
                              obtain ⟨rfl, q, hq1, hq2, rfl, HN, HR⟩ := hrel
                              by_cases hqk : k < q
                              · have hc := (HK.out.below HR.out.2.2 (Nat.le_refl _)).cell k hks
                                have hqs : q < ks.length := by rw [HK.out.hlen]; exact hq2
                                have hc1 := (HK.out.below HR.out.2.2 (Nat.le_refl _)).cell q hqs
                                obtain ⟨s, hs⟩ : ∃ s, s = ks[k] := ⟨_, rfl⟩
                                obtain ⟨s1, hs1⟩ : ∃ s1, s1 = ks[q] := ⟨_, rfl⟩
                                rw [← hs] at hc
                                rw [← hs1] at hc1
                                have HS : Hid (s = ks[k]) := hs
                                have HS1 : Hid (s1 = ks[q]) := hs1
                                clear hs hs1
                                obtain rfl := HK.out.at_ (by omega)
                                have hi1 : (k : Int) < (len : Int) := by omega
                                have hi2 : (q : Int) < (len : Int) := by omega
                                go_wp2_with fail
                                go_quiet (fail)
                                go_wp2_with fail
                                · have he := str_eq (by assumption : (s1.toList == s.toList) = true)
                                  go_meet
                                  exact ⟨q, rfl, hq2, ⟨by omega, ⟨hqs, hks, by rw [← HS.out, ← HS1.out]; exact he⟩, HN.out⟩, HR.out.alike rfl rfl rfl rfl⟩
                                · have he := str_ne (by assumption : (s1.toList == s.toList) = false)
                                  go_roundw
                                  case rel => exact ⟨rfl, q - 1, by omega, by omega, by rw [show ((q - 1 : Nat) : Int) = (q : Int) - 1 by omega], none_step HN.out hqs hks (by rw [← HS.out, ← HS1.out]; exact he), HR.out.alike rfl rfl rfl rfl⟩
                                  case measure => simp [intOf]; omega
                              · go_wp2_with fail
                                go_meet
                                have hqe : q = k := by omega
                                rw [hqe] at HN
                                exact ⟨k, rfl, hlt, ⟨Nat.le_refl _, ⟨hks, hks, rfl⟩, HN.out⟩, HR.out⟩
                          case rest =>
                            clear HR
                            obtain ⟨p, rfl, hp, HLast, HR⟩ := hcut
                            have hc := (HK.out.below HR.out.2.2 (Nat.le_refl _)).cell k hks
                            obtain ⟨s, hs⟩ : ∃ s, s = ks[k] := ⟨_, rfl⟩
                            rw [← hs] at hc
                            have HG := hid2 (get_round w wc m ks k p hks (HK.out.fits _ (List.getElem_mem hks)) HLast.out HR.out)
                            rw [← hs] at HG
                            have HC : Hid (cnt ks (k + 1) = cnt ks k + if p = k then 1 else 0) := by
                              obtain ⟨h1, ⟨h2, h3, h4⟩, h5⟩ := HLast.out
                              exact cnt_step ks k p hks h2 h1 h4 (fun i hi h => h5 i hi hks h)
                            clear hs
                            obtain rfl := HK.out.at_ (by omega)
                            have hi1 : (k : Int) < (len : Int) := by omega
                            have hwp : IntKind.i64.wrap (p : Int) = (p : Int) := by rw [IntKind.wrap_i64]; omega
                            by_cases hpk : p = k
                            · have hb : ((p : Int) == (k : Int)) = true := by simp; omega
                              rw [if_pos hpk] at HC
                              clear hpk
                              go_wp2_with fail
                              refine HG.out.mono ?_
                              rintro e w3 ⟨rfl, rfl⟩
                              go_wp2_with fail
                              go_roundw
                              case rel => exact ⟨k + 1, by omega, by go_num, by rw [HC.out]; go_num, HR.out⟩
                              case measure => simp [intOf]; omega
                            · have hb : ((p : Int) == (k : Int)) = false := by simp; omega
                              rw [if_neg hpk] at HC
                              clear hpk
                              go_wp2_with fail
                              refine HG.out.mono ?_
                              rintro e w3 ⟨rfl, rfl⟩
                              go_wp2_with fail
                              go_roundw
                              case rel => exact ⟨k + 1, by omega, by go_num, by rw [HC.out]; rfl, HR.out⟩
                              case measure => simp [intOf]; omega
                        · have hke : k = ks.length := by have := HK.out.hlen; omega
                          have hsz : Maps.size (idxD ks) = cnt ks k := by
                            have h1 := size_take ks ks.length (Nat.le_refl _)
                            rw [List.take_length] at h1
                            rw [h1, hke, cnt_all]
                          have HSZ := hid2 hsz
                          clear hsz hke
                          have HG := hid2 (indexLen wv w.heap.size m ks.length (idxD ks) HR.out.1 HR.out.2.1)
                          rw [HSZ.out] at HG
                          go_wp2_with fail
                          refine HG.out.mono ?_
                          rintro e w3 ⟨rfl, rfl⟩
                          go_wp2_with fail
                          go_ret
                          exact ⟨rfl, HR.out.2.2⟩
end Go.Proofs.Qxb6627852a
