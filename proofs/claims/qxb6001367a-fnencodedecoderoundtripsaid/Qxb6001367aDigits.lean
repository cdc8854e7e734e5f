import Derived.Test.Qxb6001367aMath
import Derived.Test.Qxb6001367aShelf
import Derived.WalkKit
namespace Go.Proofs.Qxb6001367a
open Go.RowKit

/-- the 62 digits -/
abbrev b62 : ByteArray := ⟨#[48, 49, 50, 51, 52, 53, 54, 55, 56, 57, 65, 66, 67, 68, 69, 70, 71, 72, 73, 74, 75, 76, 77, 78, 79, 80, 81, 82, 83, 84, 85, 86, 87, 88, 89, 90, 97, 98, 99, 100, 101, 102, 103, 104, 105, 106, 107, 108, 109, 110, 111, 112, 113, 114, 115, 116, 117, 118, 119, 120, 121, 122]⟩
def ch (d : Nat) : Nat := (b62.data.toList.map UInt8.toNat).getD d 0
theorem ch_fin : ∀ d : Fin 62, ch d.val < 256 ∧ Lib.indexByte b62.data.toList (ch d.val).toUInt8 = d.val ∧ (ch d.val = 48 → d.val = 0) := by decide +kernel
theorem ch_lt {d : Nat} (h : d < 62) : ch d < 256 := (ch_fin ⟨d, h⟩).1
theorem ch_idx {d : Nat} (h : d < 62) : Lib.indexByte b62.data.toList (ch d).toUInt8 = d := (ch_fin ⟨d, h⟩).2.1
theorem ch_zero {d : Nat} (h : d < 62) : ch d = 48 → d = 0 := (ch_fin ⟨d, h⟩).2.2

theorem idx62 (d : Nat) (c : Int) (w : World) (hd : d < 62) (hc : c = (ch d : Int)) :
    Calls Try.prog 27 #[.string b62, .int .u8 c] w fun e w' => e = .returned (.int .i64 (d : Int)) ∧ w' = w := by
  have h := Try.strings_IndexByte b62 c w
  rw [hc, Int.toNat_natCast, show (ch d).toUInt8 = (ch d).toUInt8 from rfl, ch_idx hd] at h
  rw [hc]
  exact h
end Go.Proofs.Qxb6001367a
