/-
  THE PLAIN LAW: no Go in sight. 'safeB s': no byte of s is above 126.
-/
import Derived.Lib.Strings
namespace Go.Proofs.Qxb6627813a

def okB (c : UInt8) : Bool := decide (c.toNat ≤ 126)
def safeL (l : List UInt8) : Bool := l.all okB
def safeB (s : ByteArray) : Bool := safeL s.data.toList

theorem safeL_append (a b : List UInt8) : safeL (a ++ b) = (safeL a && safeL b) := by
  unfold safeL; rw [List.all_append]

theorem take_snoc (s : ByteArray) (k : Nat) (h : k < s.size) : s.data.toList.take (k + 1) = s.data.toList.take k ++ [s[k]] := by
  rw [List.take_succ_eq_append_getElem (by simpa using h)]; rfl

theorem safeL_take_succ (s : ByteArray) (k : Nat) (h : k < s.size) (h0 : safeL (s.data.toList.take k) = true) :
    safeL (s.data.toList.take (k + 1)) = okB s[k] := by
  rw [take_snoc s k h, safeL_append, h0]; simp [safeL]

theorem safeB_false (s : ByteArray) (k : Nat) (h : k < s.size) (hb : ¬ (s[k].toNat : Int) ≤ 126) : safeB s = false := by
  unfold safeB safeL
  rw [List.all_eq_false]
  refine ⟨s[k], ?_, ?_⟩
  · exact List.getElem_mem (l := s.data.toList) (n := k) (by simpa using h)
  · unfold okB; simp; omega

theorem safeB_true (s : ByteArray) (k : Nat) (h : s.size ≤ k) (h0 : safeL (s.data.toList.take k) = true) : safeB s = true := by
  unfold safeB
  rwa [List.take_of_length_le (by simpa using h)] at h0

theorem extract_list (s : ByteArray) (a b : Nat) : (s.extract a b).data.toList = (s.data.toList.drop a).take (b - a) := by
  rw [Lib.extract_data]

theorem safeB_split (s : ByteArray) (k : Nat) : safeB s = (safeB (s.extract 0 k) && safeB (s.extract k s.size)) := by
  unfold safeB
  rw [← safeL_append, extract_list, extract_list]
  congr 1
  rw [List.drop_zero, Nat.sub_zero, List.take_of_length_le (l := s.data.toList.drop k) (by simp), List.take_append_drop]

theorem safeB_empty (s : ByteArray) (k : Nat) : safeB (s.extract k k) = true := by
  unfold safeB; rw [extract_list]; simp [safeL]

theorem safeB_one (s : ByteArray) (k : Nat) (h : k < s.size) : safeB (s.extract k (k + 1)) = decide ((s[k].toNat : Int) ≤ 126) := by
  unfold safeB; rw [extract_list]
  have e : (s.data.toList.drop k).take (k + 1 - k) = [s[k]] := by
    rw [List.drop_eq_getElem_cons (by simpa using h)]
    have : k + 1 - k = 1 := by omega
    rw [this]; rfl
  rw [e]; simp [safeL, okB]; omega

/-- The one-byte string of b. -/
def oneB (b : UInt8) : ByteArray := ⟨#[b]⟩
theorem oneB_size (b : UInt8) : (oneB b).size = 1 := rfl
theorem safeB_oneB (b : UInt8) : safeB (oneB b) = decide ((b.toNat : Int) ≤ 126) := by
  unfold safeB oneB; simp [safeL, okB]; omega

theorem safeB_append (a b : ByteArray) : safeB (a ++ b) = (safeB a && safeB b) := by
  unfold safeB; rw [← safeL_append]; simp

/-- b put into s at place k. -/
theorem safeB_put (s : ByteArray) (k : Nat) (b : UInt8) :
    safeB (s.extract 0 k ++ oneB b ++ s.extract k s.size) = (safeB s && decide ((b.toNat : Int) ≤ 126)) := by
  rw [safeB_append, safeB_append, safeB_oneB, safeB_split s k]
  cases safeB (s.extract 0 k) <;> cases safeB (s.extract k s.size) <;> simp

end Go.Proofs.Qxb6627813a
