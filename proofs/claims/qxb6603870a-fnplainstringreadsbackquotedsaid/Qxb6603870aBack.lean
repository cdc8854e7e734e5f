import Derived.Test.Qxb6603870aScan
namespace Go.Proofs.Qxb6603870a
open Go.RowKit

abbrev qq : ByteArray := ⟨#[34]⟩

theorem ba_ext {a b : ByteArray} (h : a.data.toList = b.data.toList) : a = b := by
  apply ByteArray.ext
  exact Array.toList_inj.1 h
theorem ba_app (a b : ByteArray) : (a ++ b).data.toList = a.data.toList ++ b.data.toList := by simp
theorem ba_ext_list (a : ByteArray) (i j : Nat) : (a.extract i j).data.toList = (a.data.toList.take j).drop i := by
  simp [ByteArray.data_extract, List.extract, List.drop_take]

theorem back_list (t u : ByteArray) : (qq ++ t ++ qq ++ u).data.toList = 34 :: (t.data.toList ++ 34 :: u.data.toList) := by
  simp
theorem back_size (t u : ByteArray) : (qq ++ t ++ qq ++ u).size = t.size + u.size + 2 := by
  have hq : qq.size = 1 := rfl
  rw [ByteArray.size_append, ByteArray.size_append, ByteArray.size_append, hq]; omega
theorem back_tail (t u : ByteArray) : (qq ++ t ++ qq ++ u).extract 1 (qq ++ t ++ qq ++ u).size = t ++ qq ++ u := by
  apply ba_ext
  rw [ba_ext_list, back_list, List.take_of_length_le (by rw [back_size]; simp; omega)]
  simp
theorem idx_list (l r : List UInt8) (h : ∀ x ∈ l, x ≠ 34) : Lib.indexByte (l ++ 34 :: r) 34 = l.length := by
  induction l with
  | nil => rfl
  | cons b l ih =>
    have hb : (b == 34) = false := by simpa using h b (by simp)
    have := ih (fun x hx => h x (by simp [hx]))
    rw [List.cons_append, Lib.indexByte, hb, this]
    simp
theorem back_text (t u : ByteArray) : (t ++ qq ++ u).extract 0 t.size = t := by
  apply ba_ext
  rw [ba_ext_list, ba_app, ba_app]
  simp
theorem back_rest (t u : ByteArray) : (t ++ qq ++ u).extract (t.size + 1) (t.size + u.size + 1) = u := by
  apply ba_ext
  rw [ba_ext_list, List.take_of_length_le (by simp; omega), ba_app, ba_app]
  have : t.size + 1 = (t.data.toList ++ qq.data.toList).length := by simp
  rw [this, List.drop_left]

theorem zz_back_yes (t u x : ByteArray) (w : World) (ht : t.size ≤ 1048576) (hu : u.size ≤ 1048576) (hq : ∀ c ∈ t.data.toList, c ≠ 34) (hb : plainB t.data.toList = true) :
    Calls Try.prog 6 #[.string (qq ++ t ++ qq ++ u), .string x] w fun e w' => e = .returned (.tuple #[.bool true, .string u, .string t]) ∧ Grown w w' := by
  have hsz := back_size t u
  have h := zz_yes (qq ++ t ++ qq ++ u) x w t.size (by omega) (by omega) (by unfold maxLen; omega) (by rw [back_list]; simp [Lib.hasPrefix]) (by rw [back_tail, ba_app, ba_app]; simpa using idx_list t.data.toList u.data.toList hq) (by rw [back_tail, back_text]; exact hb)
  rw [back_tail, back_text, hsz, show t.size + u.size + 2 - 1 = t.size + u.size + 1 from by omega, back_rest] at h
  exact h
theorem zz_back_no (t u x : ByteArray) (w : World) (ht : t.size ≤ 1048576) (hu : u.size ≤ 1048576) (hq : ∀ c ∈ t.data.toList, c ≠ 34) (hb : plainB t.data.toList = false) :
    Calls Try.prog 6 #[.string (qq ++ t ++ qq ++ u), .string x] w fun e w' => e = .returned (.tuple #[.bool false, .string (t ++ qq ++ u), .string x]) ∧ Grown w w' := by
  have hsz := back_size t u
  have h := zz_odd (qq ++ t ++ qq ++ u) x w t.size (by omega) (by omega) (by unfold maxLen; omega) (by rw [back_list]; simp [Lib.hasPrefix]) (by rw [back_tail, ba_app, ba_app]; simpa using idx_list t.data.toList u.data.toList hq) (by rw [back_tail, back_text]; exact hb)
  rw [back_tail] at h
  exact h
end Go.Proofs.Qxb6603870a
