import Derived.Test.Qxb6002681aShape
namespace Go.Proofs.Qxb6002681a
open Go.RowKit

/-- scheme, '://', authority, path -/
def absT (S A P : List UInt8) : List UInt8 := S ++ [58, 47, 47] ++ A ++ P
theorem absT_len (S A P : List UInt8) : (absT S A P).length = S.length + 3 + A.length + P.length := by simp [absT]; omega
theorem absT_scheme (S A P : List UInt8) (j : Nat) (h : j < S.length) : (absT S A P).getD j 0 = S.getD j 0 := by
  unfold absT
  rw [List.append_assoc, List.append_assoc, List.getD, List.getElem?_append_left h]; rfl
theorem absT_mark (S A P : List UInt8) (j : Nat) (h : j < 3) : (absT S A P).getD (S.length + j) 0 = ([58, 47, 47] : List UInt8).getD j 0 := by
  unfold absT
  rw [List.append_assoc, List.append_assoc, List.getD, List.getElem?_append_right (by omega), show S.length + j - S.length = j from by omega, List.getElem?_append_left (by simpa using h)]; rfl
theorem absT_auth (S A P : List UInt8) (j : Nat) (h : j < A.length) : (absT S A P).getD (S.length + 3 + j) 0 = A.getD j 0 := by
  unfold absT
  have e : (S ++ [58, 47, 47]).length = S.length + 3 := by simp
  rw [List.append_assoc, List.getD, List.getElem?_append_right (by omega), e, show S.length + 3 + j - (S.length + 3) = j from by omega, List.getElem?_append_left h]; rfl
theorem absT_path (S A P : List UInt8) (j : Nat) : (absT S A P).getD (S.length + 3 + A.length + j) 0 = P.getD j 0 := by
  unfold absT
  have e : (S ++ [58, 47, 47] ++ A).length = S.length + 3 + A.length := by simp; omega
  rw [List.getD, List.getElem?_append_right (by omega), e, show S.length + 3 + A.length + j - (S.length + 3 + A.length) = j from by omega]; rfl
theorem absT_abs (S A P : List UInt8) (hS0 : 0 < S.length) (hS : ∀ j, j < S.length → S.getD j 0 ≠ 47) : Abs (absT S A P) S.length := by
  refine ⟨hS0, ⟨by rw [absT_len]; simp; omega, fun t ht => absT_mark S A P t (by simpa using ht)⟩, ?_, ?_⟩
  · rintro j hj ⟨_, h⟩
    have h1 : (absT S A P).getD (j + 1) 0 = 47 := h 1 (by simp)
    by_cases e : j + 1 < S.length
    · rw [absT_scheme S A P _ e] at h1
      exact hS _ e h1
    · rw [show j + 1 = S.length + 0 from by omega, absT_mark S A P 0 (by omega)] at h1
      exact absurd h1 (by decide)
  · intro j hj
    rw [absT_scheme S A P j hj]
    exact hS j hj
theorem absT_gap (S A P : List UInt8) (hA : ∀ j, j < A.length → A.getD j 0 ≠ 47) : ∀ j, S.length + 3 ≤ j → j < S.length + 3 + A.length → (absT S A P).getD j 0 ≠ 47 := by
  intro j h1 h2
  rw [show j = S.length + 3 + (j - (S.length + 3)) from by omega, absT_auth S A P _ (by omega)]
  exact hA _ (by omega)

namespace absolute
set_option maxHeartbeats 400000 in
theorem bytes_yes (a b c : Option Addr) (n1 c1 n2 c2 n3 c3 : Nat) (w : World) (h : n1 + n2 + n3 ≤ 1048576) :
    Calls Try.prog 18 #[.slice a n1 c1, .slice b n2 c2, .slice c n3 c3] w fun e w' => e = .returned (.bool true) ∧ w = w' := by
  go_enter Try.func18, Try.ntmps18
  go_wp2
  go_ret
  exact ⟨rfl, rfl⟩

set_option maxHeartbeats 1000000 in
theorem bytes_no (a b c : Option Addr) (n1 c1 n2 c2 n3 c3 : Nat) (w : World) (ha : n1 ≤ maxLen) (hb : n2 ≤ maxLen) (hc : n3 ≤ maxLen) (h : ¬ n1 + n2 + n3 ≤ 1048576) :
    Calls Try.prog 18 #[.slice a n1 c1, .slice b n2 c2, .slice c n3 c3] w fun e w' => e = .returned (.bool false) ∧ w = w' := by
  unfold maxLen at ha hb hc
  rcases (show 1048576 < n1 ∨ (n1 ≤ 1048576 ∧ 1048576 < n2) ∨ (n1 ≤ 1048576 ∧ n2 ≤ 1048576 ∧ 1048576 < n1 + n2) ∨ (n1 ≤ 1048576 ∧ n2 ≤ 1048576 ∧ n1 + n2 ≤ 1048576 ∧ 1048576 < n3) ∨ (n1 ≤ 1048576 ∧ n2 ≤ 1048576 ∧ n1 + n2 ≤ 1048576 ∧ n3 ≤ 1048576) from by omega) with h1 | ⟨h1, h2⟩ | ⟨h1, h2, h3⟩ | ⟨h1, h2, h3, h4⟩ | ⟨h1, h2, h3, h4⟩
  all_goals
    go_enter Try.func18, Try.ntmps18
    go_wp2
    go_ret
    exact ⟨rfl, rfl⟩

theorem walk_big (a b c : Option Addr) (n1 c1 n2 c2 n3 c3 : Nat) (w : World) (ha : n1 ≤ maxLen) (hb : n2 ≤ maxLen) (hc : n3 ≤ maxLen) (h : ¬ n1 + n2 + n3 ≤ 1048576) :
    Calls Try.prog 5 #[.slice a n1 c1, .slice b n2 c2, .slice c n3 c3] w fun e w' => e = .returned (.bool true) ∧ Below w.heap.size w w' := by
  go_enter Try.func5, Try.ntmps5
  go_wp2_with (go_at_call 18; refine (bytes_no _ _ _ _ _ _ _ _ _ _ ha hb hc h).mono ?_; rintro e w' ⟨rfl, rfl⟩)
  go_ret
  exact ⟨rfl, Below.refl _ _⟩

set_option maxHeartbeats 1000000 in
theorem walk_s0 (a b c : Option Addr) (c1 n2 c2 n3 c3 : Nat) (w : World) (h : n2 + n3 ≤ 1048576) :
    Calls Try.prog 5 #[.slice a 0 c1, .slice b n2 c2, .slice c n3 c3] w fun e w' => e = .returned (.bool true) ∧ Below w.heap.size w w' := by
  go_enter Try.func5, Try.ntmps5
  go_wp2_with (go_at_call 18; refine (bytes_yes _ _ _ _ _ _ _ _ _ _ (by omega)).mono ?_; rintro e w' ⟨rfl, rfl⟩)
  go_ret
  exact ⟨rfl, Below.refl _ _⟩

set_option maxHeartbeats 1000000 in
theorem walk_slash1 (a b c : Option Addr) (n1 c1 n2 c2 n3 c3 : Nat) (S : List UInt8) (w : World) (h : n1 + n2 + n3 ≤ 1048576) (h1 : 0 < n1) (v1 : View w a n1 c1 S) (hs : ∃ j, j < n1 ∧ S.getD j 0 = 47) :
    Calls Try.prog 5 #[.slice a n1 c1, .slice b n2 c2, .slice c n3 c3] w fun e w' => e = .returned (.bool true) ∧ Below w.heap.size w w' := by
  have HV : Hid (View w a n1 c1 S) := v1
  have HS : Hid (∃ j, j < n1 ∧ S.getD j 0 = 47) := hs
  have hz : ((n1 : Int) == 0) = false := beq_eq_false_iff_ne.2 (by omega)
  clear v1 hs
  go_enter Try.func5, Try.ntmps5
  go_wp2_with (first
    | (go_at_call 18; refine (bytes_yes _ _ _ _ _ _ _ _ _ _ h).mono ?_; rintro e w' ⟨rfl, rfl⟩)
    | (go_at_call 16; refine (hasb_any _ _ _ S true _ HV.out.1 (by omega) (by exact HV.out.2.2.2.1) ⟨fun _ => HS.out, fun _ => rfl⟩).mono ?_; rintro e w' ⟨rfl, rfl⟩))
  go_ret
  exact ⟨rfl, Below.refl _ _⟩

set_option maxHeartbeats 1000000 in
theorem walk_slash2 (a b c : Option Addr) (n1 c1 n2 c2 n3 c3 : Nat) (S A : List UInt8) (w : World) (h : n1 + n2 + n3 ≤ 1048576) (h1 : 0 < n1) (v1 : View w a n1 c1 S) (v2 : View w b n2 c2 A) (hs : ∀ j, j < n1 → S.getD j 0 ≠ 47) (ha : ∃ j, j < n2 ∧ A.getD j 0 = 47) :
    Calls Try.prog 5 #[.slice a n1 c1, .slice b n2 c2, .slice c n3 c3] w fun e w' => e = .returned (.bool true) ∧ Below w.heap.size w w' := by
  have HV1 : Hid (View w a n1 c1 S) := v1
  have HV2 : Hid (View w b n2 c2 A) := v2
  have HS : Hid (∀ j, j < n1 → S.getD j 0 ≠ 47) := hs
  have HA : Hid (∃ j, j < n2 ∧ A.getD j 0 = 47) := ha
  have hz : ((n1 : Int) == 0) = false := beq_eq_false_iff_ne.2 (by omega)
  clear v1 v2 hs ha
  go_enter Try.func5, Try.ntmps5
  go_wp2_with (go_at_call 18; refine (bytes_yes _ _ _ _ _ _ _ _ _ _ h).mono ?_; rintro e w' ⟨rfl, rfl⟩)
  refine (hasb_any _ _ _ S false _ HV1.out.1 (by omega) (by exact HV1.out.2.2.2.1) ⟨(fun h => by cases h), fun ⟨j, hj, h⟩ => absurd h (HS.out j hj)⟩).mono ?_
  rintro e w' ⟨rfl, rfl⟩
  go_wp2_with fail
  refine (hasb_any _ _ _ A true _ HV2.out.1 (by omega) (by exact HV2.out.2.2.2.1) ⟨fun _ => HA.out, fun _ => rfl⟩).mono ?_
  rintro e w' ⟨rfl, rfl⟩
  go_wp2
  go_ret
  exact ⟨rfl, Below.refl _ _⟩

set_option maxHeartbeats 1000000 in
theorem walk_path (a b c : Option Addr) (n1 c1 n2 c2 n3 c3 : Nat) (S A P : List UInt8) (w : World) (h : n1 + n2 + n3 ≤ 1048576) (h1 : 0 < n1) (v1 : View w a n1 c1 S) (v2 : View w b n2 c2 A) (v3 : View w c n3 c3 P) (hs : ∀ j, j < n1 → S.getD j 0 ≠ 47) (ha : ∀ j, j < n2 → A.getD j 0 ≠ 47) (hp0 : 0 < n3) (hp : P.getD 0 0 ≠ 47) :
    Calls Try.prog 5 #[.slice a n1 c1, .slice b n2 c2, .slice c n3 c3] w fun e w' => e = .returned (.bool true) ∧ Below w.heap.size w w' := by
  have HV1 : Hid (View w a n1 c1 S) := v1
  have HV2 : Hid (View w b n2 c2 A) := v2
  have HS : Hid (∀ j, j < n1 → S.getD j 0 ≠ 47) := hs
  have HA : Hid (∀ j, j < n2 → A.getD j 0 ≠ 47) := ha
  have hz : ((n1 : Int) == 0) = false := beq_eq_false_iff_ne.2 (by omega)
  obtain ⟨g, off, rfl, hc⟩ := v3.2.2.2.1 (by have := v3.1; omega)
  have hc0 := hc 0 (by have := v3.1; omega)
  obtain ⟨y, hy⟩ : ∃ y, ((P.getD 0 0).toNat : Int) = y := ⟨_, rfl⟩
  have hy47 : (y != 47) = true := by
    rw [bne_iff_ne, ← hy]
    intro e
    exact hp (byte_eq (n := 47) (by omega) e)
  rw [hy, Nat.add_zero] at hc0
  clear v1 v2 v3 hs ha hc hy hp
  go_enter Try.func5, Try.ntmps5
  go_wp2_with (go_at_call 18; refine (bytes_yes _ _ _ _ _ _ _ _ _ _ h).mono ?_; rintro e w' ⟨rfl, rfl⟩)
  refine (hasb_any _ _ _ S false _ HV1.out.1 (by omega) (by exact HV1.out.2.2.2.1) ⟨(fun h => by cases h), fun ⟨j, hj, h⟩ => absurd h (HS.out j hj)⟩).mono ?_
  rintro e w' ⟨rfl, rfl⟩
  go_wp2_with fail
  refine (hasb_any _ _ _ A false _ HV2.out.1 (by omega) (by exact HV2.out.2.2.2.1) ⟨(fun h => by cases h), fun ⟨j, hj, h⟩ => absurd h (HA.out j hj)⟩).mono ?_
  rintro e w' ⟨rfl, rfl⟩
  go_wp2
  go_ret
  exact ⟨rfl, Below.refl _ _⟩

set_option maxHeartbeats 4000000 in
theorem walk_main0 (a b c : Option Addr) (n1 c1 n2 c2 n3 c3 : Nat) (S A P : List UInt8) (m : Int) (w : World) (h : n1 + n2 + n3 ≤ 1048576) (h1 : 0 < n1) (v1 : View w a n1 c1 S) (v2 : View w b n2 c2 A) (v3 : View w c n3 c3 P) (hs : ∀ j, j < n1 → S.getD j 0 ≠ 47) (ha : ∀ j, j < n2 → A.getD j 0 ≠ 47) (hm : w.cell? ⟨0, 0, none⟩ = some (.int .i64 m)) (hp0 : n3 = 0) :
    Calls Try.prog 5 #[.slice a n1 c1, .slice b n2 c2, .slice c n3 c3] w fun e w' => e = .returned (.bool true) ∧ Below w.heap.size w w' := by
  have q := q22
  have q2 := q22n
  have kc := fun (w : World) (C : Array Value) (n c : Nat) => Lib.run_convert_bytes_const (P := Try.prog) w 22 5 C n c Try.underlying22 Try.underlying5
  have h0 : 0 < w.heap.size := World.block_lt_of_cell? w ⟨0, 0, none⟩ hm
  have HM := show Hid _ from hm
  have HV1 : Hid (View w a n1 c1 S) := v1
  have HV2 : Hid (View w b n2 c2 A) := v2
  have HV3 : Hid (View w c n3 c3 P) := v3
  have HS : Hid (∀ j, j < n1 → S.getD j 0 ≠ 47) := hs
  have HA : Hid (∀ j, j < n2 → A.getD j 0 ≠ 47) := ha
  have hz : ((n1 : Int) == 0) = false := beq_eq_false_iff_ne.2 (by omega)
  have HL1 : Hid (S.length = n1) := v1.1
  have HL2 : Hid (A.length = n2) := v2.1
  have HL3 : Hid (P.length = n3) := v3.1
  have HAB : Hid (Abs (absT S A P) n1) := by
    have := absT_abs S A P (by have := v1.1; omega) (by rw [v1.1]; exact hs)
    rw [v1.1] at this
    exact this
  have HGAP : Hid (∀ j, n1 + 3 ≤ j → j < n1 + 3 + n2 → (absT S A P).getD j 0 ≠ 47) := by
    have := absT_gap S A P (by rw [v2.1]; exact ha)
    rw [v1.1, v2.1] at this
    exact this
  have HTL : Hid ((absT S A P).length = n1 + 3 + n2 + n3) := by rw [Hid, absT_len, v1.1, v2.1, v3.1]
  have hlz : ((n3 : Int) == 0) = true := beq_iff_eq.2 (by omega)
  have hlp : decide ((0 : Int) < (n3 : Int)) = false := decide_eq_false (by omega)
  have hlp2 : decide (0 < n3) = false := decide_eq_false (by omega)
  have hlp3 : n3 ≤ 0 := by omega
  have HP0 := show Hid _ from hp0
  clear v1 v2 v3 hs ha hm hp0
  go_enter Try.func5, Try.ntmps5
  go_wp2_with (go_at_call 18; refine (bytes_yes _ _ _ _ _ _ _ _ _ _ h).mono ?_; rintro e w' ⟨rfl, rfl⟩)
  refine (hasb_any _ _ _ S false _ HL1.out (by omega) (by exact HV1.out.2.2.2.1) ⟨(fun h => by cases h), fun ⟨j, hj, h⟩ => absurd h (HS.out j hj)⟩).mono ?_
  rintro e w' ⟨rfl, rfl⟩
  go_wp2_with fail
  refine (hasb_any _ _ _ A false _ HL2.out (by omega) (by exact HV2.out.2.2.2.1) ⟨(fun h => by cases h), fun ⟨j, hj, h⟩ => absurd h (HA.out j hj)⟩).mono ?_
  rintro e w' ⟨rfl, rfl⟩
  go_wp2_with fail
  refine (clone_any a n1 c1 S _ HL1.out (by omega) HV1.out.2.1 HV1.out.2.2.1).mono ?_
  rintro e w1 ⟨a', c1', rfl, hca1, hza1, _, hb1⟩
  have HA1 := show Hid _ from (show Cells w1 a' S ∧ NilOk a' n1 c1' from ⟨hca1, hza1⟩)
  clear hca1 hza1
  go_wp2_with fail
  refine (clone_any b n2 c2 A _ HL2.out (by omega) HV2.out.2.1 (add_below HV2.out.2.2.1 hb1)).mono ?_
  rintro e w2 ⟨b', c2', rfl, hcb2, hzb2, _, hb2⟩
  have HB2 := show Hid _ from (show Cells w2 b' A ∧ NilOk b' n2 c2' from ⟨hcb2, hzb2⟩)
  clear hcb2 hzb2
  have hb12 : Below w.heap.size w w2 := hb1.trans (hb2.mono hb1.size)
  go_wp2_with fail
  refine (clone_any c n3 c3 P _ HL3.out (by omega) HV3.out.2.1 (add_below HV3.out.2.2.1 hb12)).mono ?_
  rintro e w3 ⟨c', c3', rfl, hcc3, hzc3, _, hb3⟩
  have HC3 := show Hid _ from (show Cells w3 c' P ∧ NilOk c' n3 c3' from ⟨hcc3, hzc3⟩)
  clear hcc3 hzc3
  have hb13 : Below w.heap.size w w3 := hb12.trans (hb3.mono hb12.size)
  go_wp2_with fail
  have hal : Below w3.heap.size w3 (w3.alloc (.cells #[.int .u8 58, .int .u8 47, .int .u8 47] 5 (3, 4))) := (Below.refl _ _).alloc (Nat.le_refl _) _
  refine (cat_any a' (some ⟨w3.heap.size, 0, none⟩) n1 c1' 3 3 S [58, 47, 47] _ HL1.out rfl (by omega) (((HA1.out.1.below hb2).below hb3).below hal) (css_const w3) HA1.out.2 (NilOk.some _ _ _)).mono ?_
  rintro e w4 ⟨rfl, hr4, hs4, hb4⟩
  have hsz : (w3.alloc (.cells #[.int .u8 58, .int .u8 47, .int .u8 47] 5 (3, 4))).heap.size = w3.heap.size + 1 := by simp
  have hb34 : Below w3.heap.size w3 w4 := hal.trans (hb4.mono (by omega))
  rw [hsz] at hr4 hs4
  have HR4 : Hid (Row w4 (w3.heap.size + 1) 0 (S ++ [58, 47, 47])) := hr4
  clear hr4 hal hsz hb4
  have hb14 : Below w.heap.size w w4 := hb13.trans (hb34.mono hb13.size)
  go_wp2_with fail
  refine (cat_any _ b' (n1 + 3) (n1 + 3) n2 c2' (S ++ [58, 47, 47]) A _ (by have := HL1.out; simp; omega) HL2.out (by omega) (by exact HR4.out.cells) ((HB2.out.1.below hb3).below hb34) (NilOk.some _ _ _) HB2.out.2).mono ?_
  rintro e w5 ⟨rfl, hr5, hs5, hb5⟩
  have HR5 : Hid (Row w5 w4.heap.size 0 (S ++ [58, 47, 47] ++ A)) := hr5
  clear hr5
  have hb15 : Below w.heap.size w w5 := hb14.trans (hb5.mono hb14.size)
  go_wp2_with fail
  refine (cat_any _ c' (n1 + 3 + n2) (n1 + 3 + n2) n3 _ (S ++ [58, 47, 47] ++ A) P _ (by have := HL1.out; have := HL2.out; simp; omega) HL3.out (by omega) (by exact HR5.out.cells) ((HC3.out.1.below hb34).below hb5) (NilOk.some _ _ _) HC3.out.2).mono ?_
  rintro e w6 ⟨rfl, hr6, hs6, hb6⟩
  have HR6 : Hid (Row w6 w5.heap.size 0 (absT S A P)) := hr6
  clear hr6
  have hb16 : Below w.heap.size w w6 := hb15.trans (hb6.mono hb15.size)
  have HM6 : Hid (w6.cell? ⟨0, 0, none⟩ = some (.int .i64 m)) := by rw [Hid, hb16.cell (p := ⟨0, 0, none⟩) h0]; exact HM.out
  go_wp2_with fail
  refine (of_abs_none w5.heap.size (n1 + 3 + n2 + n3) n1 (absT S A P) m w6 HTL.out (by omega) hs6 HR6.out HM6.out HAB.out (fun j h1 h2 => HGAP.out j h1 (by have := HP0.out; omega))).mono ?_
  rintro e w7 ⟨rfl, hb7⟩
  go_wp2
  go_ret
  exact ⟨rfl, hb16.trans (hb7.mono hb16.size)⟩

set_option maxHeartbeats 4000000 in
theorem walk_main1 (a b c : Option Addr) (n1 c1 n2 c2 n3 c3 : Nat) (S A P : List UInt8) (m : Int) (w : World) (h : n1 + n2 + n3 ≤ 1048576) (h1 : 0 < n1) (v1 : View w a n1 c1 S) (v2 : View w b n2 c2 A) (v3 : View w c n3 c3 P) (hs : ∀ j, j < n1 → S.getD j 0 ≠ 47) (ha : ∀ j, j < n2 → A.getD j 0 ≠ 47) (hm : w.cell? ⟨0, 0, none⟩ = some (.int .i64 m)) (hp0 : 0 < n3) (hp : P.getD 0 0 = 47) :
    Calls Try.prog 5 #[.slice a n1 c1, .slice b n2 c2, .slice c n3 c3] w fun e w' => e = .returned (.bool true) ∧ Below w.heap.size w w' := by
  obtain ⟨gc, oc, rfl, hcc⟩ := v3.2.2.2.1 (by have := v3.1; omega)
  have hc0 := hcc 0 (by have := v3.1; omega)
  rw [hp, Nat.add_zero] at hc0
  have q := q22
  have q2 := q22n
  have kc := fun (w : World) (C : Array Value) (n c : Nat) => Lib.run_convert_bytes_const (P := Try.prog) w 22 5 C n c Try.underlying22 Try.underlying5
  have h0 : 0 < w.heap.size := World.block_lt_of_cell? w ⟨0, 0, none⟩ hm
  have HM := show Hid _ from hm
  have HV1 : Hid (View w a n1 c1 S) := v1
  have HV2 : Hid (View w b n2 c2 A) := v2
  have HV3 : Hid (View w (some ⟨gc, oc, none⟩) n3 c3 P) := v3
  have HS : Hid (∀ j, j < n1 → S.getD j 0 ≠ 47) := hs
  have HA : Hid (∀ j, j < n2 → A.getD j 0 ≠ 47) := ha
  have hz : ((n1 : Int) == 0) = false := beq_eq_false_iff_ne.2 (by omega)
  have HL1 : Hid (S.length = n1) := v1.1
  have HL2 : Hid (A.length = n2) := v2.1
  have HL3 : Hid (P.length = n3) := v3.1
  have HAB : Hid (Abs (absT S A P) n1) := by
    have := absT_abs S A P (by have := v1.1; omega) (by rw [v1.1]; exact hs)
    rw [v1.1] at this
    exact this
  have HGAP : Hid (∀ j, n1 + 3 ≤ j → j < n1 + 3 + n2 → (absT S A P).getD j 0 ≠ 47) := by
    have := absT_gap S A P (by rw [v2.1]; exact ha)
    rw [v1.1, v2.1] at this
    exact this
  have HTL : Hid ((absT S A P).length = n1 + 3 + n2 + n3) := by rw [Hid, absT_len, v1.1, v2.1, v3.1]
  have hlz : ((n3 : Int) == 0) = false := beq_eq_false_iff_ne.2 (by omega)
  have HP : Hid (P.getD 0 0 = 47) := hp
  have HNA : Hid (NotAbs P) := by
    rcases abs_or P with ⟨i, ha⟩ | hna
    · exact absurd hp (ha.2.2.2 0 ha.1)
    · exact hna
  clear v1 v2 v3 hs ha hm hp hcc
  go_enter Try.func5, Try.ntmps5
  go_wp2_with (go_at_call 18; refine (bytes_yes _ _ _ _ _ _ _ _ _ _ h).mono ?_; rintro e w' ⟨rfl, rfl⟩)
  refine (hasb_any _ _ _ S false _ HL1.out (by omega) (by exact HV1.out.2.2.2.1) ⟨(fun h => by cases h), fun ⟨j, hj, h⟩ => absurd h (HS.out j hj)⟩).mono ?_
  rintro e w' ⟨rfl, rfl⟩
  go_wp2_with fail
  refine (hasb_any _ _ _ A false _ HL2.out (by omega) (by exact HV2.out.2.2.2.1) ⟨(fun h => by cases h), fun ⟨j, hj, h⟩ => absurd h (HA.out j hj)⟩).mono ?_
  rintro e w' ⟨rfl, rfl⟩
  go_wp2_with fail
  refine (clone_any a n1 c1 S _ HL1.out (by omega) HV1.out.2.1 HV1.out.2.2.1).mono ?_
  rintro e w1 ⟨a', c1', rfl, hca1, hza1, _, hb1⟩
  have HA1 := show Hid _ from (show Cells w1 a' S ∧ NilOk a' n1 c1' from ⟨hca1, hza1⟩)
  clear hca1 hza1
  go_wp2_with fail
  refine (clone_any b n2 c2 A _ HL2.out (by omega) HV2.out.2.1 (add_below HV2.out.2.2.1 hb1)).mono ?_
  rintro e w2 ⟨b', c2', rfl, hcb2, hzb2, _, hb2⟩
  have HB2 := show Hid _ from (show Cells w2 b' A ∧ NilOk b' n2 c2' from ⟨hcb2, hzb2⟩)
  clear hcb2 hzb2
  have hb12 : Below w.heap.size w w2 := hb1.trans (hb2.mono hb1.size)
  go_wp2_with fail
  refine (clone_some _ n3 c3 P _ HL3.out (by omega) (add_below HV3.out.2.2.1 hb12 _ rfl)).mono ?_
  rintro e w3 ⟨rfl, hrp, hsp, hb3⟩
  have HRP : Hid (Row w3 w2.heap.size 0 P) := hrp
  clear hrp
  have hb13 : Below w.heap.size w w3 := hb12.trans (hb3.mono hb12.size)
  go_wp2_with fail
  have hal : Below w3.heap.size w3 (w3.alloc (.cells #[.int .u8 58, .int .u8 47, .int .u8 47] 5 (3, 4))) := (Below.refl _ _).alloc (Nat.le_refl _) _
  refine (cat_any a' (some ⟨w3.heap.size, 0, none⟩) n1 c1' 3 3 S [58, 47, 47] _ HL1.out rfl (by omega) (((HA1.out.1.below hb2).below hb3).below hal) (css_const w3) HA1.out.2 (NilOk.some _ _ _)).mono ?_
  rintro e w4 ⟨rfl, hr4, hs4, hb4⟩
  have hsz : (w3.alloc (.cells #[.int .u8 58, .int .u8 47, .int .u8 47] 5 (3, 4))).heap.size = w3.heap.size + 1 := by simp
  have hb34 : Below w3.heap.size w3 w4 := hal.trans (hb4.mono (by omega))
  rw [hsz] at hr4 hs4
  have HR4 : Hid (Row w4 (w3.heap.size + 1) 0 (S ++ [58, 47, 47])) := hr4
  clear hr4 hal hsz hb4
  have hb14 : Below w.heap.size w w4 := hb13.trans (hb34.mono hb13.size)
  go_wp2_with fail
  refine (cat_any _ b' (n1 + 3) (n1 + 3) n2 c2' (S ++ [58, 47, 47]) A _ (by have := HL1.out; simp; omega) HL2.out (by omega) (by exact HR4.out.cells) ((HB2.out.1.below hb3).below hb34) (NilOk.some _ _ _) HB2.out.2).mono ?_
  rintro e w5 ⟨rfl, hr5, hs5, hb5⟩
  have HR5 : Hid (Row w5 w4.heap.size 0 (S ++ [58, 47, 47] ++ A)) := hr5
  clear hr5
  have hb15 : Below w.heap.size w w5 := hb14.trans (hb5.mono hb14.size)
  go_wp2_with fail
  refine (cat_any _ _ (n1 + 3 + n2) (n1 + 3 + n2) n3 _ (S ++ [58, 47, 47] ++ A) P _ (by have := HL1.out; have := HL2.out; simp; omega) HL3.out (by omega) (by exact HR5.out.cells) ((HRP.out.cells.below hb34).below hb5) (NilOk.some _ _ _) (NilOk.some _ _ _)).mono ?_
  rintro e w6 ⟨rfl, hr6, hs6, hb6⟩
  have HR6 : Hid (Row w6 w5.heap.size 0 (absT S A P)) := hr6
  clear hr6
  have hb16 : Below w.heap.size w w6 := hb15.trans (hb6.mono hb15.size)
  have HM6 : Hid (w6.cell? ⟨0, 0, none⟩ = some (.int .i64 m)) := by rw [Hid, hb16.cell (p := ⟨0, 0, none⟩) h0]; exact HM.out
  go_wp2_with fail
  refine (of_abs_some w5.heap.size (n1 + 3 + n2 + n3) n1 n2 n3 (absT S A P) m w6 HTL.out (by omega) hs6 HR6.out HM6.out HAB.out (by have := absT_path S A P 0; rw [HL1.out, HL2.out, Nat.add_zero] at this; rw [this]; exact HP.out) HGAP.out rfl hp0).mono ?_
  rintro e w7 ⟨rfl, hb7⟩
  have hb17 : Below w.heap.size w w7 := hb16.trans (hb7.mono hb16.size)
  have HG7 : Hid (Cells w7 (some ⟨w5.heap.size, n1 + 3 + n2, none⟩) P) := by
    have := (HR6.out.below hb7 hs6).drop' (n1 + 3 + n2)
    have e : (absT S A P).drop (n1 + 3 + n2) = P := by
      unfold absT
      rw [List.drop_append_of_le_length (by have := HL1.out; have := HL2.out; simp; omega), List.drop_of_length_le (by have := HL1.out; have := HL2.out; simp; omega), List.nil_append]
    rw [e] at this
    exact this.cells
  have s34 := hb34.size
  have s5 := hb5.size
  have s6 := hb6.size
  have HP7 : Hid (Row w7 w2.heap.size 0 P) := ((((HRP.out.below hb34 hsp).below hb5 (by omega)).below hb6 (by omega)).below hb7 (by omega))
  have s7 := hb7.size
  go_wp2_with fail
  refine (equal_c _ _ _ _ n3 P _ HL3.out (by omega) (by exact HG7.out) (by exact HP7.out.cells)).mono ?_
  rintro e w8 ⟨rfl, q8, hw8⟩
  have hb18 : Below w.heap.size w w8 := by rw [hw8]; exact below_drewN hb17 q8
  have HP8 : Hid (Row w8 w2.heap.size 0 P) := by rw [Hid, hw8]; exact HP7.out
  have s8 : w7.heap.size = w8.heap.size := by rw [hw8]; rfl
  clear hw8
  go_wp2_with fail
  refine (of_rel_some w2.heap.size n3 P m w8 HL3.out (by omega) (by omega) HP8.out (by rw [hb18.cell (p := ⟨0, 0, none⟩) h0]; exact HM.out) HNA.out hp0 HP.out).mono ?_
  rintro e w9 ⟨rfl, hb9⟩
  have HP9 : Hid (Row w9 w2.heap.size 0 P) := HP8.out.below hb9 (by omega)
  have hb19 : Below w.heap.size w w9 := hb18.trans (hb9.mono hb18.size)
  go_wp2_with fail
  refine (equal_c _ _ _ _ n3 P _ HL3.out (by omega) (by exact HP9.out.cells) (by exact HP9.out.cells)).mono ?_
  rintro e w10 ⟨rfl, q10, rfl⟩
  go_wp2
  go_ret
  exact ⟨rfl, below_drewN hb19 _⟩

theorem has_or (L : List UInt8) (n : Nat) : (∃ j, j < n ∧ L.getD j 0 = 47) ∨ ∀ j, j < n → L.getD j 0 ≠ 47 := by
  by_cases h : ∃ j, j < n ∧ L.getD j 0 = 47
  · exact Or.inl h
  · exact Or.inr fun j hj e => h ⟨j, hj, e⟩

theorem walk (a b c : Option Addr) (n1 c1 n2 c2 n3 c3 : Nat) (S A P : List UInt8) (m : Int) (w : World) (v1 : View w a n1 c1 S) (v2 : View w b n2 c2 A) (v3 : View w c n3 c3 P) (hm : w.cell? ⟨0, 0, none⟩ = some (.int .i64 m)) :
    Calls Try.prog 5 #[.slice a n1 c1, .slice b n2 c2, .slice c n3 c3] w fun e w' => e = .returned (.bool true) ∧ Below w.heap.size w w' := by
  by_cases h : n1 + n2 + n3 ≤ 1048576
  · by_cases h1 : n1 = 0
    · subst h1
      exact walk_s0 a b c c1 n2 c2 n3 c3 w (by omega)
    · have h1' : 0 < n1 := by omega
      rcases has_or S n1 with hs | hs
      · exact walk_slash1 a b c n1 c1 n2 c2 n3 c3 S w h h1' v1 hs
      · rcases has_or A n2 with ha | ha
        · exact walk_slash2 a b c n1 c1 n2 c2 n3 c3 S A w h h1' v1 v2 hs ha
        · by_cases hp0 : n3 = 0
          · exact walk_main0 a b c n1 c1 n2 c2 n3 c3 S A P m w h h1' v1 v2 v3 hs ha hm hp0
          · by_cases hp : P.getD 0 0 = 47
            · exact walk_main1 a b c n1 c1 n2 c2 n3 c3 S A P m w h h1' v1 v2 v3 hs ha hm (by omega) hp
            · exact walk_path a b c n1 c1 n2 c2 n3 c3 S A P w h h1' v1 v2 v3 hs ha (by omega) hp
  · exact walk_big a b c n1 c1 n2 c2 n3 c3 w v1.2.2.2.2 v2.2.2.2.2 v3.2.2.2.2 h
end absolute
end Go.Proofs.Qxb6002681a
