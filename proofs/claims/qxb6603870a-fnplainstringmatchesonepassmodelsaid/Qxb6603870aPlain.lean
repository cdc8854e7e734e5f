import Derived.WalkKit
import Derived.Lib.Bytealg
import Derived.Lib.Strings
namespace Go.Proofs.Qxb6603870a

/-- a byte that a JSON string needs no escape for -/
def okB (c : UInt8) : Bool := decide (32 ≤ c.toNat) && decide (c.toNat ≤ 126) && !(c == 34) && !(c == 92)
def plainB (l : List UInt8) : Bool := l.all okB

theorem take_snoc (s : ByteArray) (k : Nat) (h : k < s.size) : s.data.toList.take (k + 1) = s.data.toList.take k ++ [s[k]] := by
  rw [List.take_succ_eq_append_getElem (by simpa using h)]; rfl
theorem plain_snoc (s : ByteArray) (k : Nat) (h : k < s.size) : plainB (s.data.toList.take (k + 1)) = (plainB (s.data.toList.take k) && okB s[k]) := by
  rw [take_snoc s k h]; simp [plainB]
theorem plain_all (s : ByteArray) (k : Nat) (h : ¬ k < s.size) : plainB (s.data.toList.take k) = plainB s.data.toList := by
  rw [List.take_of_length_le (by simp; omega)]
theorem plain_bad (s : ByteArray) (k : Nat) (h : k < s.size) (hb : okB s[k] = false) : plainB s.data.toList = false := by
  unfold plainB
  rw [List.all_eq_false]
  refine ⟨s[k], ?_, by simpa using hb⟩
  show s.data[k] ∈ _
  simp
theorem okB_false (c : UInt8) (h : (c.toNat : Int) < 32 ∨ 126 < (c.toNat : Int) ∨ (c.toNat : Int) = 34 ∨ (c.toNat : Int) = 92) : okB c = false := by
  unfold okB
  have e1 : (c == 34) = decide (c.toNat = 34) := by rw [Bool.eq_iff_iff]; simp [← UInt8.toNat_inj]
  have e2 : (c == 92) = decide (c.toNat = 92) := by rw [Bool.eq_iff_iff]; simp [← UInt8.toNat_inj]
  rw [e1, e2]
  rcases h with h | h | h | h
  · have : ¬ 32 ≤ c.toNat := by omega
    simp [this]
  · have : ¬ c.toNat ≤ 126 := by omega
    simp [this]
  · have : c.toNat = 34 := by omega
    simp [this]
  · have : c.toNat = 92 := by omega
    simp [this]
theorem okB_true (c : UInt8) (h1 : 32 ≤ (c.toNat : Int)) (h2 : (c.toNat : Int) ≤ 126) (h3 : ¬ (c.toNat : Int) = 34) (h4 : ¬ (c.toNat : Int) = 92) : okB c = true := by
  unfold okB
  have e1 : (c == 34) = decide (c.toNat = 34) := by rw [Bool.eq_iff_iff]; simp [← UInt8.toNat_inj]
  have e2 : (c == 92) = decide (c.toNat = 92) := by rw [Bool.eq_iff_iff]; simp [← UInt8.toNat_inj]
  rw [e1, e2]
  have a1 : 32 ≤ c.toNat := by omega
  have a2 : c.toNat ≤ 126 := by omega
  have a3 : ¬ c.toNat = 34 := by omega
  have a4 : ¬ c.toNat = 92 := by omega
  simp [a1, a2, a3, a4]
end Go.Proofs.Qxb6603870a
