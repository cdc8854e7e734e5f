import Derived.Test.Qxb6002681aFind
import Derived.Lib.IndexLaws
import Derived.RegionTactic
namespace Go.Proofs.Qxb6002681a
open Go.RowKit

def numsOf (L : List UInt8) : List Int := L.map (fun b => (b.toNat : Int))
theorem bytes_nums (L : List UInt8) : Lib.bytesOf (numsOf L) = L := by
  induction L with
  | nil => rfl
  | cons b l ih =>
    have e : Lib.bytesOf (numsOf (b :: l)) = UInt8.ofNat (b.toNat : Int).toNat :: Lib.bytesOf (numsOf l) := rfl
    rw [e, ih, Int.toNat_natCast, UInt8.ofNat_toNat]
theorem nums_get (L : List UInt8) (i : Nat) (h : i < L.length) : (numsOf L).getD i 0 = ((L.getD i 0).toNat : Int) := by
  simp [numsOf, List.getD, h]

theorem idx_at (g off n c v : Nat) (L : List UInt8) (i : Int) (w : World) (hL : L.length = n) (hc : n ≠ 0 → ∀ j, j < L.length → w.cell? ⟨g, off + j, none⟩ = some (.int .u8 ((L.getD j 0).toNat : Int))) (hi : Lib.indexByte L (UInt8.ofNat v) = i) :
    Calls Try.prog 31 #[.slice (some ⟨g, off, none⟩) n c, .int .u8 (v : Int)] w fun e w' => e = .returned (.int .i64 i) ∧ w = w' := by
  have h := Try.bytes_IndexByte_at ⟨g, off, none⟩ n c (numsOf L) (v : Int) w (by simpa [numsOf] using hL) (fun j hj => by
    rw [Addr.add_lit, nums_get L j (by omega)]; exact hc (by omega) j (by omega))
  rw [bytes_nums, Int.toNat_natCast] at h
  have e : v.toUInt8 = UInt8.ofNat v := rfl
  rw [e, hi] at h
  exact h.mono fun e w' ⟨h1, h2⟩ => ⟨h1, h2.symm⟩

theorem cut_nil (w : World) : Calls Try.prog 32 #[.slice none 0 0] w fun e w' => e = .returned (.tuple #[.slice none 0 0, .slice none 0 0]) ∧ w = w' := by
  go_enter Try.func32, Try.ntmps32
  go_wp2_with fail
  refine wp_loop_rounds 1 ?_
  rw [rounds_succ]
  go_wp2_with (go_at_call 31; refine (Try.bytes_IndexByte_nil _ _).mono ?_; rintro e w' ⟨rfl, hw'⟩; obtain rfl := hw'.symm)
  go_ret2
  exact ⟨rfl, rfl⟩

theorem idx_cases (L : List UInt8) (k n : Nat) (c : UInt8) (hL : L.length = n) (_hk : k ≤ n) :
    (Lib.indexByte (L.drop k) c = -1 ∧ ∀ j, k ≤ j → j < n → L.getD j 0 ≠ c) ∨
    ∃ t : Nat, Lib.indexByte (L.drop k) c = (t : Int) ∧ k + t < n ∧ L.getD (k + t) 0 = c ∧ ∀ j, k ≤ j → j < k + t → L.getD j 0 ≠ c := by
  have hget : ∀ j, j < n → L[j]? = some (L.getD j 0) := fun j hj => by rw [List.getD, List.getElem?_eq_getElem (by omega)]; rfl
  have hge := Lib.indexByte_ge (L.drop k) c
  by_cases hneg : Lib.indexByte (L.drop k) c = -1
  · refine Or.inl ⟨hneg, fun j h1 h2 e => ?_⟩
    have := Lib.indexByte_none hneg (j - k)
    rw [List.getElem?_drop, show k + (j - k) = j from by omega, hget j h2, e] at this
    exact this rfl
  · obtain ⟨t, ht⟩ := Int.eq_ofNat_of_zero_le (show 0 ≤ Lib.indexByte (L.drop k) c by omega)
    obtain ⟨h1, h2⟩ := Lib.indexByte_some ht
    rw [List.getElem?_drop] at h1
    have hlt : k + t < n := by
      obtain ⟨h, _⟩ := List.getElem?_eq_some_iff.1 h1
      omega
    refine Or.inr ⟨t, ht, hlt, ?_, fun j h3 h4 e => ?_⟩
    · rw [hget _ hlt] at h1; simpa using h1
    · have := h2 (j - k) (by omega)
      rw [List.getElem?_drop, show k + (j - k) = j from by omega, hget j (by omega), e] at this
      exact this rfl

set_option maxHeartbeats 1000000 in
theorem cut_no (g n : Nat) (L : List UInt8) (w : World) (hL : L.length = n) (hn : n ≤ 2097152) (hr : Row w g 0 L) (hno : ∀ i, ¬ At L i) :
    Calls Try.prog 32 #[.slice (some ⟨g, 0, none⟩) n n] w fun e w' => e = .returned (.tuple #[.slice none 0 0, .slice none 0 0]) ∧ w = w' := by
  have HL := show Hid _ from hL
  have HR : Hid (Row w g 0 L) := hr
  have HN := show Hid _ from hno
  clear hL hr hno
  go_enter Try.func32, Try.ntmps32
  go_wp2_with fail
  go_loop [4] (fun i => ∃ k : Nat, k ≤ n ∧ i = .int .i64 k) (fun i => n - (intOf i).toNat)
  case atStart => exact ⟨0, Nat.zero_le _, rfl⟩
  case round =>
    obtain ⟨k, hk, rfl⟩ := hrel
    by_cases hkn : k = n
    · subst hkn
      go_wp2_with (go_at_call 31; refine (idx_at _ _ _ _ 10 [] (-1) _ rfl (fun h => absurd rfl h) rfl).mono ?_; rintro e w' ⟨rfl, rfl⟩)
      go_ret2
      exact ⟨rfl, rfl⟩
    · have hkn2 : ¬ n = k := fun h => hkn h.symm
      have HD : Hid (Row w g k (L.drop k)) := by have := HR.out.drop k; rw [Nat.zero_add] at this; exact this
      have HDL : Hid ((L.drop k).length = n - k) := by have := HL.out; rw [Hid]; simp; omega
      rcases idx_cases L k n 10 HL.out hk with ⟨hneg, _⟩ | ⟨t, ht, htn, h10, _⟩
      · have HI := show Hid _ from hneg
        clear hneg
        go_wp2_with (go_at_call 31; refine (idx_at _ _ _ _ 10 (L.drop k) (-1) _ HDL.out (fun _ j hj => HD.out.at j hj) HI.out).mono ?_; rintro e w' ⟨rfl, rfl⟩)
        go_ret2
        exact ⟨rfl, rfl⟩
      · have HI := show Hid _ from ht
        have HT := show Hid _ from h10
        clear ht h10
        by_cases h0 : k + t = 0
        · obtain rfl : k = 0 := by omega
          obtain rfl : t = 0 := by omega
          go_wp2_with (go_at_call 31; refine (idx_at _ _ _ _ 10 (L.drop 0) (0 : Nat) _ HDL.out (fun _ j hj => HD.out.at j hj) HI.out).mono ?_; rintro e w' ⟨rfl, rfl⟩)
          go_round
          case rel => exact ⟨1, by omega, rfl⟩
          case measure => simp [intOf]; omega
        · obtain ⟨m, hm⟩ : ∃ m, k + t = m + 1 := ⟨k + t - 1, by omega⟩
          obtain ⟨x, hx⟩ : ∃ x, (L.getD m 0).toNat = x := ⟨_, rfl⟩
          have hcx := HR.out.at m (by have := HL.out; omega)
          rw [hx, Nat.zero_add] at hcx
          have hx13 : ¬ (x : Int) = 13 := by
            intro e
            refine HN.out m ⟨by have := HL.out; omega, byte_eq (n := 13) (by omega) (by rw [hx]; exact e), ?_⟩
            rw [← hm]; exact HT.out
          have hmi : (k : Int) + (t : Int) = (m : Int) + 1 := by omega
          clear hx hm h0
          go_wp2_with (go_at_call 31; refine (idx_at _ _ _ _ 10 (L.drop k) (t : Int) _ HDL.out (fun _ j hj => HD.out.at j hj) HI.out).mono ?_; rintro e w' ⟨rfl, rfl⟩)
          go_round
          case rel => exact ⟨m + 2, by omega, by go_num⟩
          case measure => simp [intOf]; omega

/-- where the rest begins -/
def restOff (n p : Nat) : Nat := if n = p + 2 then 0 else p + 2
theorem getD_lt (L : List UInt8) (p : Nat) (h : L.getD (p + 1) 0 = 10) : p + 1 < L.length := by
  rcases Nat.lt_or_ge (p + 1) L.length with h1 | h1
  · exact h1
  · rw [List.getD, List.getElem?_eq_none h1] at h; exact absurd h (by decide)

set_option maxHeartbeats 1000000 in
theorem cut_yes (g n p : Nat) (L : List UInt8) (w : World) (hL : L.length = n) (hn : n ≤ 2097152) (hr : Row w g 0 L) (hp : At L p) (hno : ∀ i, i < p → ¬ At L i) :
    Calls Try.prog 32 #[.slice (some ⟨g, 0, none⟩) n n] w fun e w' => e = .returned (.tuple #[.slice (some ⟨g, 0, none⟩) p p, .slice (some ⟨g, restOff n p, none⟩) (n - (p + 2)) (n - (p + 2))]) ∧ ∃ q, w' = w.drewN q := by
  have hpn : p + 1 < n := by have := hp.1; omega
  have HL := show Hid _ from hL
  have HR : Hid (Row w g 0 L) := hr
  have HN := show Hid _ from hno
  have HP : Hid (At L p) := hp
  clear hL hr hno hp
  go_enter Try.func32, Try.ntmps32
  go_wp2_with fail
  go_loop [4] (fun i => ∃ k : Nat, k ≤ p + 1 ∧ i = .int .i64 k) (fun i => n - (intOf i).toNat)
  case atStart => exact ⟨0, Nat.zero_le _, rfl⟩
  case round =>
    obtain ⟨k, hk, rfl⟩ := hrel
    have hkn2 : ¬ n = k := by omega
    have HD : Hid (Row w g k (L.drop k)) := by have := HR.out.drop k; rw [Nat.zero_add] at this; exact this
    have HDL : Hid ((L.drop k).length = n - k) := by have := HL.out; rw [Hid]; simp; omega
    rcases idx_cases L k n 10 HL.out (by omega) with ⟨_, hneg⟩ | ⟨t, ht, htn, h10, hbef⟩
    · exact absurd HP.out.2.2 (hneg (p + 1) hk hpn)
    · have htp : k + t ≤ p + 1 := by
        rcases Nat.lt_or_ge (p + 1) (k + t) with h | h
        · exact absurd HP.out.2.2 (hbef (p + 1) hk h)
        · exact h
      have HI := show Hid _ from ht
      have HT := show Hid _ from h10
      clear ht h10 hbef
      by_cases h0 : k + t = 0
      · obtain rfl : k = 0 := by omega
        obtain rfl : t = 0 := by omega
        go_wp2_with (go_at_call 31; refine (idx_at _ _ _ _ 10 (L.drop 0) (0 : Nat) _ HDL.out (fun _ j hj => HD.out.at j hj) HI.out).mono ?_; rintro e w' ⟨rfl, rfl⟩)
        go_round
        case rel => exact ⟨1, by omega, rfl⟩
        case measure => simp [intOf]; omega
      · obtain ⟨m, hm⟩ : ∃ m, k + t = m + 1 := ⟨k + t - 1, by omega⟩
        obtain ⟨x, hx⟩ : ∃ x, (L.getD m 0).toNat = x := ⟨_, rfl⟩
        have hcx := HR.out.at m (by have := HL.out; omega)
        rw [hx, Nat.zero_add] at hcx
        have hmi : (k : Int) + (t : Int) = (m : Int) + 1 := by omega
        by_cases hmp : m = p
        · have hx13 : (x : Int) = 13 := by rw [← hx, hmp, HP.out.2.1]; rfl
          have hmp' : (m : Int) = (p : Int) := by omega
          subst hmp
          clear hx hm h0 hmp'
          have e1 : IntKind.i64.wrap ((m : Int) + 1 - 1) = (m : Int) := by rw [IntKind.wrap_i64]; omega
          have e2 : IntKind.i64.wrap ((m : Int) + 1 + 1) = (m : Int) + 2 := by rw [IntKind.wrap_i64]; omega
          have e3 : ((m : Int) + 2).toNat = m + 2 := by omega
          have e4 : ((m : Int) + 1 + 1).toNat = m + 2 := by omega
          by_cases hend : n = m + 2
          · subst hend
            go_wp2_with (go_at_call 31; refine (idx_at _ _ _ _ 10 (L.drop k) (t : Int) _ HDL.out (fun _ j hj => HD.out.at j hj) HI.out).mono ?_; rintro e w' ⟨rfl, rfl⟩)
            go_quiet (fail)
            go_wp2
            go_ret2
            exact ⟨by rw [show restOff (m + 2) m = 0 from if_pos rfl, Nat.sub_self]; rfl, _, rfl⟩
          · go_wp2_with (go_at_call 31; refine (idx_at _ _ _ _ 10 (L.drop k) (t : Int) _ HDL.out (fun _ j hj => HD.out.at j hj) HI.out).mono ?_; rintro e w' ⟨rfl, rfl⟩)
            go_quiet (fail)
            go_wp2
            go_ret2
            exact ⟨by rw [show restOff n m = m + 2 from if_neg hend]; rfl, _, rfl⟩
        · have hx13 : ¬ (x : Int) = 13 := by
            intro e
            refine HN.out m (by omega) ⟨by have := HL.out; omega, byte_eq (n := 13) (by omega) (by rw [hx]; exact e), ?_⟩
            rw [← hm]; exact HT.out
          clear hx hm h0
          go_wp2_with (go_at_call 31; refine (idx_at _ _ _ _ 10 (L.drop k) (t : Int) _ HDL.out (fun _ j hj => HD.out.at j hj) HI.out).mono ?_; rintro e w' ⟨rfl, rfl⟩)
          go_round
          case rel => exact ⟨m + 2, by omega, by go_num⟩
          case measure => simp [intOf]; omega

/-- the rest's first place, by its length -/
def rOff (p r : Nat) : Nat := if r = 0 then 0 else p + 2
theorem cut_at (g p r : Nat) (L : List UInt8) (w : World) (hL : L.length = p + 2 + r) (hn : p + 2 + r ≤ 2097152) (hr : Row w g 0 L) (hp : At L p) (hno : ∀ i, i < p → ¬ At L i) :
    Calls Try.prog 32 #[.slice (some ⟨g, 0, none⟩) (p + 2 + r) (p + 2 + r)] w fun e w' => e = .returned (.tuple #[.slice (some ⟨g, 0, none⟩) p p, .slice (some ⟨g, rOff p r, none⟩) r r]) ∧ ∃ q, w' = w.drewN q := by
  have h := cut_yes g (p + 2 + r) p L w hL hn hr hp hno
  have e1 : p + 2 + r - (p + 2) = r := by omega
  have e2 : restOff (p + 2 + r) p = rOff p r := by
    unfold restOff rOff
    by_cases h0 : r = 0
    · rw [if_pos h0, if_pos (by omega)]
    · rw [if_neg h0, if_neg (by omega)]
  rw [e1, e2] at h
  exact h
theorem cut_end (g n p : Nat) (L : List UInt8) (w : World) (hnp : p + 2 = n) (hL : L.length = n) (hn : n ≤ 2097152) (hr : Row w g 0 L) (hp : At L p) (hno : ∀ i, i < p → ¬ At L i) :
    Calls Try.prog 32 #[.slice (some ⟨g, 0, none⟩) n n] w fun e w' => e = .returned (.tuple #[.slice (some ⟨g, 0, none⟩) p p, .slice (some ⟨g, 0, none⟩) 0 0]) ∧ ∃ q, w' = w.drewN q := by
  have h := cut_yes g n p L w hL hn hr hp hno
  have e2 : restOff n p = 0 := if_pos hnp.symm
  rw [show n - (p + 2) = 0 from by omega, e2] at h
  exact h
theorem first_at (L : List UInt8) (h : ∃ i, At L i) : ∃ p r, At L p ∧ (∀ i, i < p → ¬ At L i) ∧ L.length = p + 2 + r := by
  have key : ∀ m, (∃ i, i < m ∧ At L i) → ∃ p, At L p ∧ ∀ i, i < p → ¬ At L i := by
    intro m
    induction m with
    | zero => rintro ⟨i, h, _⟩; omega
    | succ m ih =>
      rintro ⟨i, hi, ha⟩
      by_cases hb : ∃ j, j < m ∧ At L j
      · exact ih hb
      · by_cases e : i = m
        · subst e
          exact ⟨i, ha, fun j hj hja => hb ⟨j, hj, hja⟩⟩
        · exact absurd ⟨i, by omega, ha⟩ hb
  obtain ⟨i, hi⟩ := h
  obtain ⟨p, hp, hno⟩ := key (i + 1) ⟨i, by omega, hi⟩
  exact ⟨p, L.length - (p + 2), hp, hno, by have := hp.1; omega⟩
theorem take_no (L : List UInt8) (p : Nat) (hno : ∀ i, i < p → ¬ At L i) : ¬ ∃ i, At (L.take p) i := by
  rintro ⟨i, h1, h2, h3⟩
  have hl : i + 1 < p ∧ i + 1 < L.length := by simp at h1; omega
  rw [getD_take_lt L p i (by omega)] at h2
  rw [getD_take_lt L p (i + 1) (by omega)] at h3
  exact hno i (by omega) ⟨hl.2, h2, h3⟩
theorem Row.take {w : World} {g off : Nat} {L : List UInt8} (h : Row w g off L) (p : Nat) : Row w g off (L.take p) := by
  intro j hj
  have hj' : j < p ∧ j < L.length := by simp at hj; omega
  rw [getD_take_lt L p j hj'.1]
  exact h j hj'.2
end Go.Proofs.Qxb6002681a
