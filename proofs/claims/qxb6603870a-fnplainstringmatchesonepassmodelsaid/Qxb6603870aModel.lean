import Derived.Test.Qxb6603870aScan
import Derived.WalkSpells
namespace Go.Proofs.Qxb6603870a
open Go.RowKit

theorem isPlain_at (s : ByteArray) (b : Bool) (w : World) (hs : s.size ≤ maxLen) (h : plainB s.data.toList = b) :
    Calls Try.prog 9 #[.string s] w fun e w' => e = .returned (.bool b) ∧ w' = w := by
  have := isPlain_any s w hs
  rw [h] at this
  exact this
theorem bae (a : ByteArray) (i j : Nat) : (a.extract i j).data.toList = (a.data.toList.take j).drop i := by
  simp [ByteArray.data_extract, List.extract, List.drop_take]
theorem plain_one (r : ByteArray) (k : Nat) (h : k < r.size) : plainB (r.extract k (k + 1)).data.toList = okB r[k] := by
  rw [bae, take_snoc r k h]
  have hl : (r.data.toList.take k).length = k := by simp; omega
  rw [List.drop_append_of_le_length (by omega), List.drop_of_length_le (by omega)]
  simp [plainB]
theorem size_one (r : ByteArray) (k : Nat) : (r.extract k (k + 1)).size ≤ maxLen := by unfold maxLen; simp; omega
theorem ok_of_plain (r : ByteArray) (n k : Nat) (hn : n ≤ r.size) (hk : k < n) (h : plainB (r.data.toList.take n) = true) : okB (r[k]'(by omega)) = true := by
  unfold plainB at h
  rw [List.all_eq_true] at h
  apply h
  have e : (r[k]'(by omega)) = (r.data.toList.take n)[k]'(by simp; omega) := by simp; rfl
  rw [e]
  exact List.getElem_mem _
theorem ne_of_ok (c : UInt8) (h : okB c = true) : ¬ (c.toNat : Int) = 34 := by
  intro e
  rw [okB_false c (Or.inr (Or.inr (Or.inl e)))] at h
  cases h

theorem ne_empty (s : ByteArray) (h : 1 ≤ s.size) : ¬ s = ByteArray.empty := by
  rintro rfl; simp at h

set_option maxHeartbeats 400000 in
theorem md_yes (s t r : ByteArray) (w : World) (n : Nat) (h1 : 1 ≤ s.size) (hs : s.size ≤ 1048576) (hq : (s[0].toNat : Int) = 34) (hr : s.extract 1 s.size = r) (hrs : r.size ≤ 1048576)
    (hn : n < r.size) (hqn : (r[n].toNat : Int) = 34) (hpl : plainB (r.data.toList.take n) = true) :
    Calls Try.prog 7 #[.string s, .string t] w fun e w' => e = .returned (.tuple #[.bool true, .string (r.extract (n + 1) r.size), .string (r.extract 0 n)]) ∧ Grown w w' := by
  have HPL : Hid (plainB (r.data.toList.take n) = true) := hpl
  clear hpl
  have hse : ¬ s = ByteArray.empty := ne_empty s h1
  have hz : ((s.size : Int) == 0) = false := beq_eq_false_iff_ne.2 (by omega)
  go_enter Try.func7, Try.ntmps7
  go_wp2_with fail
  go_loop [8] (fun i => ∃ k : Nat, k ≤ n ∧ i = .int .i64 k) (fun i => n - (intOf i).toNat)
  case atStart => exact ⟨0, Nat.zero_le _, rfl⟩
  case round =>
    obtain ⟨k, hk, rfl⟩ := hrel
    by_cases hlt : k < n
    · have hok := ok_of_plain r n k (by omega) hlt HPL.out
      have hne := ne_of_ok _ hok
      have HO : Hid (plainB (r.extract k (k + 1)).data.toList = true) := by rw [Hid, plain_one r k (by omega)]; exact hok
      clear hok
      have hkr : k < r.size := by omega
      go_wp2_with (go_at_call 9; refine (isPlain_at _ true _ (size_one _ _) HO.out).mono ?_; rintro e w' ⟨rfl, rfl⟩)
      go_round
      case rel => exact ⟨k + 1, by omega, by go_num⟩
      case measure => simp [intOf]; omega
    · obtain rfl : k = n := by omega
      have e1 : IntKind.i64.wrap ((k : Int) + 1) = (k : Int) + 1 := by rw [IntKind.wrap_i64]; omega
      go_wp2
      go_quiet (fail)
      go_wp2
      go_ret3
      exact ⟨rfl, by repeat (first | exact Grown.refl _ | apply Grown.drew | apply Grown.alloc)⟩

theorem take_ok (r : ByteArray) (k : Nat) (h : k < r.size) (hp : plainB (r.data.toList.take k) = true) (ho : okB r[k] = true) : plainB (r.data.toList.take (k + 1)) = true := by
  rw [plain_snoc r k h, hp, ho]; rfl

set_option maxHeartbeats 400000 in
theorem md_no (s t r : ByteArray) (w : World) (h1 : 1 ≤ s.size) (hs : s.size ≤ 1048576) (hq : (s[0].toNat : Int) = 34) (hr : s.extract 1 s.size = r) (hrs : r.size ≤ 1048576)
    (hno : ∀ n, ∀ h : n < r.size, (r[n].toNat : Int) = 34 → plainB (r.data.toList.take n) = true → False) :
    Calls Try.prog 7 #[.string s, .string t] w fun e w' => e = .returned (.tuple #[.bool false, .string r, .string t]) ∧ Grown w w' := by
  have HNO : Hid (∀ n, ∀ h : n < r.size, (r[n].toNat : Int) = 34 → plainB (r.data.toList.take n) = true → False) := hno
  clear hno
  have hse : ¬ s = ByteArray.empty := ne_empty s h1
  have hz : ((s.size : Int) == 0) = false := beq_eq_false_iff_ne.2 (by omega)
  go_enter Try.func7, Try.ntmps7
  go_wp2_with fail
  go_loop [8] (fun i => ∃ k : Nat, k ≤ r.size ∧ i = .int .i64 k ∧ plainB (r.data.toList.take k) = true) (fun i => r.size - (intOf i).toNat)
  case atStart => exact ⟨0, Nat.zero_le _, rfl, rfl⟩
  case round =>
    obtain ⟨k, hk, rfl, hp⟩ := hrel
    have HP : Hid (plainB (r.data.toList.take k) = true) := hp
    clear hp
    by_cases hlt : k < r.size
    · have hne : ¬ (r[k].toNat : Int) = 34 := fun e => HNO.out k hlt e HP.out
      cases hok : okB r[k] with
      | true =>
        have HT : Hid (plainB (r.data.toList.take (k + 1)) = true) := take_ok r k hlt HP.out hok
        have HO : Hid (plainB (r.extract k (k + 1)).data.toList = true) := by rw [Hid, plain_one r k (by omega)]; exact hok
        clear hok
        go_wp2_with (go_at_call 9; refine (isPlain_at _ true _ (size_one _ _) HO.out).mono ?_; rintro e w' ⟨rfl, rfl⟩)
        go_round
        case rel => exact ⟨k + 1, by omega, by go_num, HT.out⟩
        case measure => simp [intOf]; omega
      | false =>
        have HO : Hid (plainB (r.extract k (k + 1)).data.toList = false) := by rw [Hid, plain_one r k (by omega)]; exact hok
        clear hok
        go_wp2_with (go_at_call 9; refine (isPlain_at _ false _ (size_one _ _) HO.out).mono ?_; rintro e w' ⟨rfl, rfl⟩)
        go_ret3
        exact ⟨rfl, Grown.refl _⟩
    · go_wp2
      go_ret3
      exact ⟨rfl, Grown.refl _⟩

set_option maxHeartbeats 400000 in
theorem md_none (s t : ByteArray) (w : World) (h : s.size = 0 ∨ ∃ h : 0 < s.size, ¬ (s[0].toNat : Int) = 34) :
    Calls Try.prog 7 #[.string s, .string t] w fun e w' => e = .returned (.tuple #[.bool false, .string s, .string t]) ∧ Grown w w' := by
  rcases h with h | ⟨h, hne⟩
  · obtain rfl : s = ByteArray.empty := by
      apply ByteArray.ext
      exact Array.eq_empty_of_size_eq_zero h
    go_enter Try.func7, Try.ntmps7
    go_wp2
    go_ret3
    exact ⟨rfl, Grown.refl _⟩
  · have hse : ¬ s = ByteArray.empty := ne_empty s h
    have hz : ((s.size : Int) == 0) = false := beq_eq_false_iff_ne.2 (by omega)
    go_enter Try.func7, Try.ntmps7
    go_wp2
    go_ret3
    exact ⟨rfl, Grown.refl _⟩
end Go.Proofs.Qxb6603870a
