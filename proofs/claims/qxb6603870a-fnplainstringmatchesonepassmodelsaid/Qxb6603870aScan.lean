import Derived.Test.Qxb6603870aLeaves
import Derived.RegionTactic
import Derived.BigRegion
import Derived.Deep.QuietTactic
import Derived.BigQuiet
namespace Go.Proofs.Qxb6603870a
open Go.RowKit

theorem idx_at (s : ByteArray) (i : Int) (w : World) (h : Lib.indexByte s.data.toList 34 = i) :
    Calls Try.prog 12 #[.string s, .int .u8 34] w fun e w' => e = .returned (.int .i64 i) ∧ w' = w := by
  have := Try.strings_IndexByte s 34 w
  rw [show ((34 : Int).toNat.toUInt8) = 34 from rfl, h] at this
  exact this
theorem plain_at (s : ByteArray) (b : Bool) (w : World) (hs : s.size ≤ maxLen) (h : plainB s.data.toList = b) :
    Calls Try.prog 13 #[.string s] w fun e w' => e = .returned (.bool b) ∧ w' = w := by
  have := plain_any s w hs
  rw [h] at this
  exact this

set_option maxHeartbeats 400000 in
theorem zz_none (s t : ByteArray) (w : World) (hp : Lib.hasPrefix s.data.toList [34] = false) :
    Calls Try.prog 6 #[.string s, .string t] w fun e w' => e = .returned (.tuple #[.bool false, .string s, .string t]) ∧ Grown w w' := by
  go_enter Try.func6, Try.ntmps6
  go_wp2_with (first
    | (go_at_call 14; refine (Try.strings_HasPrefix _ _ _).mono ?_; rintro e w' ⟨rfl, rfl⟩)
    | go_in)
  go_quiet (fail)
  go_wp2
  go_ret3
  exact ⟨rfl, by repeat (first | exact Grown.refl _ | apply Grown.drew | apply Grown.alloc)⟩

set_option maxHeartbeats 400000 in
theorem zz_noend (s t : ByteArray) (w : World) (i : Int) (hneg : i < 0) (h1 : 1 ≤ s.size) (hs : s.size ≤ maxLen) (hp : Lib.hasPrefix s.data.toList [34] = true) (hi : Lib.indexByte (s.extract 1 s.size).data.toList 34 = i) :
    Calls Try.prog 6 #[.string s, .string t] w fun e w' => e = .returned (.tuple #[.bool false, .string (s.extract 1 s.size), .string t]) ∧ Grown w w' := by
  unfold maxLen at hs
  have HI : Hid (Lib.indexByte (s.extract 1 s.size).data.toList 34 = i) := hi
  clear hi
  go_enter Try.func6, Try.ntmps6
  go_wp2_with (first
    | (go_at_call 14; refine (Try.strings_HasPrefix _ _ _).mono ?_; rintro e w' ⟨rfl, rfl⟩)
    | (go_at_call 12; refine (idx_at _ i _ HI.out).mono ?_; rintro e w' ⟨rfl, rfl⟩)
    | go_in)
  go_quiet (fail)
  go_wp2
  go_ret3
  exact ⟨rfl, by repeat (first | exact Grown.refl _ | apply Grown.drew | apply Grown.alloc)⟩

set_option maxHeartbeats 400000 in
theorem zz_odd (s t : ByteArray) (w : World) (n : Nat) (hn : n < s.size - 1) (h1 : 1 ≤ s.size) (hs : s.size ≤ maxLen) (hp : Lib.hasPrefix s.data.toList [34] = true) (hi : Lib.indexByte (s.extract 1 s.size).data.toList 34 = n)
    (hb : plainB ((s.extract 1 s.size).extract 0 n).data.toList = false) :
    Calls Try.prog 6 #[.string s, .string t] w fun e w' => e = .returned (.tuple #[.bool false, .string (s.extract 1 s.size), .string t]) ∧ Grown w w' := by
  unfold maxLen at hs
  have HI : Hid (Lib.indexByte (s.extract 1 s.size).data.toList 34 = n) := hi
  have HB : Hid (plainB ((s.extract 1 s.size).extract 0 n).data.toList = false) := hb
  have HS : ((s.extract 1 s.size).extract 0 n).size ≤ maxLen := by unfold maxLen; simp; omega
  clear hi hb
  go_enter Try.func6, Try.ntmps6
  go_wp2_with (first
    | (go_at_call 14; refine (Try.strings_HasPrefix _ _ _).mono ?_; rintro e w' ⟨rfl, rfl⟩)
    | (go_at_call 12; refine (idx_at _ n _ HI.out).mono ?_; rintro e w' ⟨rfl, rfl⟩)
    | (go_at_call 13; refine (plain_at _ false _ HS HB.out).mono ?_; rintro e w' ⟨rfl, rfl⟩)
    | go_in)
  go_quiet (fail)
  go_wp2
  go_ret3
  exact ⟨rfl, by repeat (first | exact Grown.refl _ | apply Grown.drew | apply Grown.alloc)⟩

set_option maxHeartbeats 400000 in
theorem zz_yes (s t : ByteArray) (w : World) (n : Nat) (hn : n < s.size - 1) (h1 : 1 ≤ s.size) (hs : s.size ≤ maxLen) (hp : Lib.hasPrefix s.data.toList [34] = true) (hi : Lib.indexByte (s.extract 1 s.size).data.toList 34 = n)
    (hb : plainB ((s.extract 1 s.size).extract 0 n).data.toList = true) :
    Calls Try.prog 6 #[.string s, .string t] w fun e w' => e = .returned (.tuple #[.bool true, .string ((s.extract 1 s.size).extract (n + 1) (s.size - 1)), .string ((s.extract 1 s.size).extract 0 n)]) ∧ Grown w w' := by
  unfold maxLen at hs
  have HI : Hid (Lib.indexByte (s.extract 1 s.size).data.toList 34 = n) := hi
  have HB : Hid (plainB ((s.extract 1 s.size).extract 0 n).data.toList = true) := hb
  have HS : ((s.extract 1 s.size).extract 0 n).size ≤ maxLen := by unfold maxLen; simp; omega
  clear hi hb
  go_enter Try.func6, Try.ntmps6
  go_wp2_with (first
    | (go_at_call 14; refine (Try.strings_HasPrefix _ _ _).mono ?_; rintro e w' ⟨rfl, rfl⟩)
    | (go_at_call 12; refine (idx_at _ n _ HI.out).mono ?_; rintro e w' ⟨rfl, rfl⟩)
    | (go_at_call 13; refine (plain_at _ true _ HS HB.out).mono ?_; rintro e w' ⟨rfl, rfl⟩)
    | go_in)
  go_region
  go_wp2
  go_quiet (fail)
  go_wp2
  go_ret3
  exact ⟨rfl, by repeat (first | exact Grown.refl _ | apply Grown.drew | apply Grown.alloc)⟩
end Go.Proofs.Qxb6603870a
