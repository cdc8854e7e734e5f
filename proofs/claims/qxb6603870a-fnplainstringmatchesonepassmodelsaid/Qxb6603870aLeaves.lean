import Derived.Test.Qxb6603870aRows
import Derived.Test.Qxb6603870aPlain
import Derived.Test.Qxb6603870aShelf
import Derived.WalkKit
import Derived.WalkSpells
namespace Go.Proofs.Qxb6603870a
open Go.RowKit

theorem ret_bool {a b : Bool} (h : a = b) : Ending.returned (.bool a) = .returned (.bool b) := by rw [h]

set_option maxHeartbeats 400000 in
theorem isPlain_any (s : ByteArray) (w : World) (hs : s.size ≤ maxLen) :
    Calls Try.prog 9 #[.string s] w fun e w' => e = .returned (.bool (plainB s.data.toList)) ∧ w' = w := by
  unfold maxLen at hs
  go_enter Try.func9, Try.ntmps9
  go_wp2
  go_loop [3] (fun i => ∃ k : Nat, k ≤ s.size ∧ i = .int .i64 k ∧ plainB (s.data.toList.take k) = true) (fun i => s.size - (intOf i).toNat)
  case atStart => exact ⟨0, Nat.zero_le _, rfl, rfl⟩
  case round =>
    obtain ⟨k, hk, rfl, hp⟩ := hrel
    have HP : Hid (plainB (s.data.toList.take k) = true) := hp
    clear hp
    by_cases hlt : k < s.size
    · rcases (show ((s[k].toNat : Int) < 32 ∨ 126 < (s[k].toNat : Int) ∨ (s[k].toNat : Int) = 34 ∨ (s[k].toNat : Int) = 92) ∨ (32 ≤ (s[k].toNat : Int) ∧ (s[k].toNat : Int) ≤ 126 ∧ ¬ (s[k].toNat : Int) = 34 ∧ ¬ (s[k].toNat : Int) = 92) from by omega) with hc | ⟨h1, h2, h3, h4⟩
      · have HB : Hid (plainB s.data.toList = false) := plain_bad s k hlt (okB_false _ hc)
        go_wp2
        all_goals first
          | (exfalso; simp only [beq_iff_eq, beq_eq_false_iff_ne] at *; omega)
          | (go_ret; exact ⟨ret_bool HB.out.symm, rfl⟩)
      · have HO : Hid (okB s[k] = true) := okB_true _ h1 h2 h3 h4
        go_wp2
        all_goals first
          | (go_round
             case rel => exact ⟨k + 1, by omega, by go_num, by rw [plain_snoc s k hlt, HP.out, HO.out]; rfl⟩
             case measure => simp [intOf]; omega)
          | (exfalso; simp only [beq_iff_eq] at *; omega)
    · go_wp2
      go_ret
      exact ⟨ret_bool (by rw [← plain_all s k hlt, HP.out]), rfl⟩

set_option maxHeartbeats 400000 in
theorem plain_any (s : ByteArray) (w : World) (hs : s.size ≤ maxLen) :
    Calls Try.prog 13 #[.string s] w fun e w' => e = .returned (.bool (plainB s.data.toList)) ∧ w' = w := by
  unfold maxLen at hs
  go_enter Try.func13, Try.ntmps13
  go_wp2
  go_loop [3] (fun i => ∃ k : Nat, k ≤ s.size ∧ i = .int .i64 k ∧ plainB (s.data.toList.take k) = true) (fun i => s.size - (intOf i).toNat)
  case atStart => exact ⟨0, Nat.zero_le _, rfl, rfl⟩
  case round =>
    obtain ⟨k, hk, rfl, hp⟩ := hrel
    have HP : Hid (plainB (s.data.toList.take k) = true) := hp
    clear hp
    by_cases hlt : k < s.size
    · rcases (show ((s[k].toNat : Int) < 32 ∨ 126 < (s[k].toNat : Int) ∨ (s[k].toNat : Int) = 34 ∨ (s[k].toNat : Int) = 92) ∨ (32 ≤ (s[k].toNat : Int) ∧ (s[k].toNat : Int) ≤ 126 ∧ ¬ (s[k].toNat : Int) = 34 ∧ ¬ (s[k].toNat : Int) = 92) from by omega) with hc | ⟨h1, h2, h3, h4⟩
      · have HB : Hid (plainB s.data.toList = false) := plain_bad s k hlt (okB_false _ hc)
        go_wp2
        all_goals first
          | (exfalso; simp only [beq_iff_eq, beq_eq_false_iff_ne] at *; omega)
          | (go_ret; exact ⟨ret_bool HB.out.symm, rfl⟩)
      · have HO : Hid (okB s[k] = true) := okB_true _ h1 h2 h3 h4
        go_wp2
        all_goals first
          | (go_round
             case rel => exact ⟨k + 1, by omega, by go_num, by rw [plain_snoc s k hlt, HP.out, HO.out]; rfl⟩
             case measure => simp [intOf]; omega)
          | (exfalso; simp only [beq_iff_eq] at *; omega)
    · go_wp2
      go_ret
      exact ⟨ret_bool (by rw [← plain_all s k hlt, HP.out]), rfl⟩
end Go.Proofs.Qxb6603870a
