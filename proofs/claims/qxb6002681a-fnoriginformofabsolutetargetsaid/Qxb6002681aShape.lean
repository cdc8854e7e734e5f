import Derived.Test.Qxb6002681aOrigin
namespace Go.Proofs.Qxb6002681a
open Go.RowKit

set_option maxHeartbeats 400000 in
theorem of_nil (w : World) : Calls Try.prog 13 #[.slice none 0 0] w fun e w' => e = .returned (.slice none 0 0) ∧ Below w.heap.size w w' := by
  have kc := fun (w : World) (C : Array Value) (n c : Nat) => Lib.run_convert_bytes_const (P := Try.prog) w 22 5 C n c Try.underlying22 Try.underlying5
  go_enter Try.func13, Try.ntmps13
  go_wp2_with fail
  refine (Try.bytes_Index_nil (some ⟨w.heap.size, 0, none⟩) 3 3 _ (by omega) (fun h => absurd h (by decide))).mono ?_
  rintro e wB ⟨rfl, hw⟩
  have hbB : Below w.heap.size w wB := by rw [hw]; exact (Below.refl _ _).alloc (Nat.le_refl _) _
  rw [show (if (3 : Nat) = 0 then (0 : Int) else -1) = -1 from rfl]
  clear hw
  go_wp2
  go_ret
  exact ⟨rfl, hbB⟩

set_option maxHeartbeats 400000 in
theorem hasb_any (a : Option Addr) (n c : Nat) (L : List UInt8) (b : Bool) (w : World) (hL : L.length = n) (hlen : n ≤ 2097152) (hc : Cells w a L) (hb : b = true ↔ ∃ j, j < n ∧ L.getD j 0 = 47) :
    Calls Try.prog 16 #[.slice a n c, .int .u8 47] w fun e w' => e = .returned (.bool b) ∧ w = w' := by
  have HL := show Hid _ from hL
  have HB := show Hid _ from hb
  by_cases hz : n = 0
  · subst hz
    have hbf : b = false := by
      cases b with
      | false => rfl
      | true => obtain ⟨i, h1, _⟩ := hb.1 rfl; omega
    subst hbf
    clear hb hc hL
    go_enter Try.func16, Try.ntmps16
    go_wp2
    refine wp_loop_rounds 1 ?_
    rw [rounds_succ]
    go_wp2
    go_ret
    exact ⟨rfl, rfl⟩
  · obtain ⟨g, off, rfl, hcx⟩ := hc (by omega)
    have HC := show Hid _ from hcx
    clear hc hL hcx hb
    go_enter Try.func16, Try.ntmps16
    go_wp2
    go_loop [5] (fun i => ∃ k : Nat, k ≤ n ∧ i = .int .i64 k ∧ ∀ i, i < k → ¬ L.getD i 0 = 47) (fun i => n - (intOf i).toNat)
    case atStart => exact ⟨0, Nat.zero_le _, rfl, fun i h => by omega⟩
    case round =>
      obtain ⟨k, hk, rfl, hno⟩ := hrel
      have HN := show Hid _ from hno
      clear hno
      by_cases hlt : k < n
      · obtain ⟨u, hu⟩ : ∃ u, ((L.getD k 0).toNat : Int) = u := ⟨_, rfl⟩
        have cu := HC.out k (by have := HL.out; omega)
        rw [hu] at cu
        have HU := show Hid _ from hu
        clear hu
        by_cases h47 : u = 47
        · have hbt : b = true := HB.out.2 ⟨k, hlt, byte_eq (n := 47) (by omega) (by rw [HU.out]; exact h47)⟩
          have HBT := show Hid _ from hbt
          clear hbt
          go_wp2
          go_ret
          exact ⟨ret_bool HBT.out.symm, rfl⟩
        · have hbe : (u == 47) = false := beq_eq_false_iff_ne.2 h47
          have HS : Hid (¬ L.getD k 0 = 47) := fun h => h47 (by rw [← HU.out, h]; rfl)
          go_wp2
          go_round
          case rel => exact ⟨k + 1, by omega, by go_num, fun i hi => by
            by_cases e : i = k
            · rw [e]; exact HS.out
            · exact HN.out i (by omega)⟩
          case measure => simp [intOf]; omega
      · have hbf : b = false := by
          cases hb : b with
          | false => rfl
          | true =>
            obtain ⟨i, hi, h⟩ := HB.out.1 hb
            exact absurd h (HN.out i (by omega))
        have HBF := show Hid _ from hbf
        clear hbf
        go_wp2
        go_ret
        exact ⟨ret_bool HBF.out.symm, rfl⟩

theorem of_any (g n : Nat) (T : List UInt8) (m : Int) (w : World) (hT : T.length = n) (hn : n ≤ 2097152) (hg : g < w.heap.size) (hr : Row w g 0 T) (hm : w.cell? ⟨0, 0, none⟩ = some (.int .i64 m)) :
    Calls Try.prog 13 #[.slice (some ⟨g, 0, none⟩) n n] w fun e w' => Below w.heap.size w w' ∧
      ((e = .returned (.slice none 0 0) ∧ (n = 0 ∨ (0 < n ∧ T.getD 0 0 ≠ 47))) ∨
       ∃ k r, e = .returned (.slice (some ⟨g, k, none⟩) r r) ∧ k + r = n ∧ 0 < r ∧ T.getD k 0 = 47 ∧ (k = 0 ∨ T.getD 0 0 ≠ 47)) := by
  rcases abs_or T with ⟨i, ha⟩ | hna
  · have h47 : T.getD 0 0 ≠ 47 := ha.2.2.2 0 ha.1
    have hi3 : i + 3 ≤ n := by have h1 : i + 3 ≤ T.length := ha.2.1.1; omega
    rcases idx_cases T (i + 3) n 47 hT (by omega) with ⟨_, h1⟩ | ⟨t, _, h2, h3, h4⟩
    · refine (of_abs_none g n i T m w hT hn hg hr hm ha h1).mono ?_
      rintro e w' ⟨he, hb⟩
      exact ⟨hb, Or.inl ⟨he, Or.inr ⟨by omega, h47⟩⟩⟩
    · refine (of_abs_some g n i t (n - (i + 3 + t)) T m w hT hn hg hr hm ha h3 h4 (by omega) (by omega)).mono ?_
      rintro e w' ⟨he, hb⟩
      exact ⟨hb, Or.inr ⟨i + 3 + t, _, he, by omega, by omega, h3, Or.inr h47⟩⟩
  · by_cases hz : n = 0 ∨ (0 < n ∧ T.getD 0 0 ≠ 47)
    · refine (of_rel_none g n T m w hT hn hg hr hm hna hz).mono ?_
      rintro e w' ⟨he, hb⟩
      exact ⟨hb, Or.inl ⟨he, hz⟩⟩
    · have hn0 : 0 < n := by
        rcases Nat.eq_zero_or_pos n with h | h
        · exact absurd (Or.inl h) hz
        · exact h
      have h47 : T.getD 0 0 = 47 := by
        by_cases h : T.getD 0 0 = 47
        · exact h
        · exact absurd (Or.inr ⟨hn0, h⟩) hz
      refine (of_rel_some g n T m w hT hn hg hr hm hna hn0 h47).mono ?_
      rintro e w' ⟨he, hb⟩
      exact ⟨hb, Or.inr ⟨0, n, he, by omega, hn0, h47, Or.inl rfl⟩⟩

set_option maxHeartbeats 400000 in
theorem same_c (g n : Nat) (T : List UInt8) (w : World) (hT : T.length = n) (hn : n ≤ 1048576) (hr : Row w g 0 T) :
    Calls Try.prog 14 #[.slice (some ⟨g, 0, none⟩) n n, .slice (some ⟨g, 0, none⟩) n n] w fun e w' => e = .returned (.bool true) ∧ ∃ q, w' = w.drewN q := by
  have q := q22
  have HR : Hid (Row w g 0 T) := hr
  have HT := show Hid _ from hT
  clear hr hT
  go_enter Try.func14, Try.ntmps14
  go_wp2_with fail
  refine (equal_c _ _ _ _ n T _ HT.out hn (by exact HR.out.cells) (by exact HR.out.cells)).mono ?_
  rintro e w' ⟨rfl, q1, rfl⟩
  go_wp2
  go_ret
  exact ⟨rfl, q1, rfl⟩

set_option maxHeartbeats 400000 in
theorem suf_c (g n k r : Nat) (T : List UInt8) (w : World) (hT : T.length = n) (hn : n ≤ 1048576) (hk : k + r = n) (hr0 : 0 < r) (hr : Row w g 0 T) :
    Calls Try.prog 17 #[.slice (some ⟨g, 0, none⟩) n n, .slice (some ⟨g, k, none⟩) r r] w fun e w' => e = .returned (.bool true) ∧ ∃ q, w' = w.drewN q := by
  have HR : Hid (Row w g 0 T) := hr
  have HT := show Hid _ from hT
  have HDL : Hid ((T.drop k).length = r) := by rw [Hid]; simp; omega
  have hnr : (n : Int) - (r : Int) = (k : Int) := by omega
  have hnk : n - k = r := by omega
  have hne : ¬ n = k := by omega
  have hrn : r ≤ n := by omega
  have hkn : k ≤ n := by omega
  have HK := show Hid _ from hk
  clear hr hT hk
  go_enter Try.func17, Try.ntmps17
  go_wp2_with fail
  refine (equal_c _ _ _ _ r (T.drop k) _ HDL.out (by omega) (by exact (HR.out.drop' k).cells) (by exact (HR.out.drop' k).cells)).mono ?_
  rintro e w' ⟨rfl, q1, rfl⟩
  go_wp2
  go_ret
  exact ⟨rfl, q1, rfl⟩

namespace shape
set_option maxHeartbeats 400000 in
theorem bytes_any (a : Option Addr) (len cap : Nat) (b : Bool) (w : World) (hl : len ≤ maxLen) (h : b = decide (len ≤ 1048576)) :
    Calls Try.prog 15 #[.slice a len cap] w fun e w' => e = .returned (.bool b) ∧ w = w' := by
  unfold maxLen at hl
  by_cases h1 : len ≤ 1048576
  · obtain rfl : b = true := by rw [h]; simpa using h1
    clear h
    go_enter Try.func15, Try.ntmps15
    go_wp2
    go_ret
    exact ⟨rfl, rfl⟩
  · obtain rfl : b = false := by rw [h]; simpa using h1
    clear h
    go_enter Try.func15, Try.ntmps15
    go_wp2
    go_ret
    exact ⟨rfl, rfl⟩

theorem walk_big (a : Option Addr) (len cap : Nat) (w : World) (hlm : len ≤ maxLen) (h20 : ¬ len ≤ 1048576) : Calls Try.prog 4 #[.slice a len cap] w fun e w' => e = .returned (.bool true) ∧ Below w.heap.size w w' := by
  go_enter Try.func4, Try.ntmps4
  go_wp2_with (go_at_call 15; refine (bytes_any _ _ _ false _ hlm (by simpa using h20)).mono ?_; rintro e w' ⟨rfl, rfl⟩)
  go_ret
  exact ⟨rfl, Below.refl _ _⟩

set_option maxHeartbeats 1000000 in
theorem walk_nil (w : World) : Calls Try.prog 4 #[.slice none 0 0] w fun e w' => e = .returned (.bool true) ∧ Below w.heap.size w w' := by
  have q := q22
  have q2 := q22n
  go_enter Try.func4, Try.ntmps4
  go_wp2_with (first
    | (go_at_call 15; refine (bytes_any none 0 0 true _ (Nat.zero_le _) rfl).mono ?_; rintro e w' ⟨rfl, rfl⟩)
    | (go_at_call 12; refine (clone_nil _).mono ?_; rintro e w' ⟨rfl, rfl⟩)
    | (go_at_call 13; refine (of_nil _).mono ?_; rintro e w1 ⟨rfl, hb1⟩)
    | (go_at_call 16; refine (hasb_any none 0 0 [] false _ rfl (by omega) (fun h => absurd rfl h) (by simp)).mono ?_; rintro e w' ⟨rfl, rfl⟩))
  go_ret
  exact ⟨rfl, hb1⟩

theorem dec_has (T : List UInt8) (n : Nat) : ∃ b : Bool, b = true ↔ ∃ j, j < n ∧ T.getD j 0 = 47 := by
  by_cases h : ∃ j, j < n ∧ T.getD j 0 = 47
  · exact ⟨true, fun _ => h, fun _ => rfl⟩
  · exact ⟨false, (fun e => by cases e), fun e => absurd e h⟩

set_option maxHeartbeats 2000000 in
theorem walk_some (x : Addr) (n cap : Nat) (T : List UInt8) (m : Int) (w : World) (h20 : n ≤ 1048576) (hT : T.length = n) (hc : ∀ i, i < n → w.cell? (x.add i) = some (.int .u8 ((T.getD i 0).toNat : Int))) (hm : w.cell? ⟨0, 0, none⟩ = some (.int .i64 m)) :
    Calls Try.prog 4 #[.slice (some x) n cap] w fun e w' => e = .returned (.bool true) ∧ Below w.heap.size w w' := by
  have q := q22
  have q2 := q22n
  have h0 : 0 < w.heap.size := World.block_lt_of_cell? w ⟨0, 0, none⟩ hm
  have HC := show Hid _ from hc
  have HT := show Hid _ from hT
  have HM := show Hid _ from hm
  clear hc hT hm
  go_enter Try.func4, Try.ntmps4
  go_wp2_with (first
    | (go_at_call 15; refine (bytes_any _ _ _ true _ (by unfold maxLen; omega) (by simpa using h20)).mono ?_; rintro e w' ⟨rfl, rfl⟩)
    | (go_at_call 12; refine (clone_some _ _ _ T _ HT.out h20 HC.out).mono ?_; rintro e w1 ⟨rfl, hr1, hs1, hb1⟩))
  refine (of_any w.heap.size n T m w1 HT.out (by omega) hs1 hr1 (by rw [hb1.cell (p := ⟨0, 0, none⟩) h0]; exact HM.out)).mono ?_
  rintro e w2 ⟨hb2, hcase⟩
  have HR2 : Hid (Row w2 w.heap.size 0 T) := hr1.below hb2 hs1
  have HB2 : Hid (Below w.heap.size w w2) := hb1.trans (hb2.mono hb1.size)
  clear hr1 hb1 hb2
  rcases hcase with ⟨rfl, hz⟩ | ⟨k, r, rfl, hkr, hr0, hk47, hk0⟩
  · obtain ⟨b, hb⟩ := dec_has T n
    have HBH := show Hid _ from hb
    clear hb
    go_wp2_with fail
    refine (hasb_any _ _ _ T b _ HT.out (by omega) (by exact HR2.out.cells) HBH.out).mono ?_
    rintro e w' ⟨rfl, rfl⟩
    rcases hz with hz | ⟨hn0, hn47⟩
    · have hn0 : decide ((0 : Int) < (n : Int)) = false := decide_eq_false (by omega)
      cases b
      all_goals
        go_wp2
        go_ret
        exact ⟨rfl, HB2.out⟩
    · have hc0 := HR2.out.at 0 (by have := HT.out; omega)
      obtain ⟨y, hy⟩ : ∃ y, ((T.getD 0 0).toNat : Int) = y := ⟨_, rfl⟩
      have hy47 : (y == 47) = false := by
        rw [beq_eq_false_iff_ne, ← hy]
        intro e
        exact hn47 (byte_eq (n := 47) (by omega) e)
      rw [hy, Nat.add_zero] at hc0
      clear hy hn47
      cases b
      all_goals
        go_wp2
        go_ret
        exact ⟨rfl, HB2.out⟩
  · have HKR := show Hid _ from hkr
    have HK47 := show Hid _ from hk47
    have hrn : r ≤ n := by omega
    have hck := HR2.out.at k (by have := HT.out; omega)
    rw [hk47, Nat.zero_add] at hck
    clear hkr hk47
    go_wp2_with fail
    refine (hasb_any _ _ _ T true _ HT.out (by omega) (by exact HR2.out.cells) ⟨fun _ => ⟨k, by have := HKR.out; omega, HK47.out⟩, fun _ => rfl⟩).mono ?_
    rintro e w' ⟨rfl, rfl⟩
    by_cases h47 : T.getD 0 0 = 47
    · have hk00 : k = 0 := by
        rcases hk0 with h | h
        · exact h
        · exact absurd h47 h
      subst hk00
      have hrr : n = r := by have := HKR.out; omega
      subst hrr
      clear hk0 h47
      go_wp2_with fail
      refine (same_c _ n T _ HT.out h20 (by exact HR2.out)).mono ?_
      rintro e w3 ⟨rfl, q3, rfl⟩
      go_wp2_with fail
      refine (suf_c _ n 0 n T _ HT.out h20 HKR.out hr0 (by exact HR2.out)).mono ?_
      rintro e w4 ⟨rfl, q4, rfl⟩
      go_wp2
      go_ret
      exact ⟨rfl, below_drewN HB2.out _⟩
    · have hc0 := HR2.out.at 0 (by have := HT.out; omega)
      obtain ⟨y, hy⟩ : ∃ y, ((T.getD 0 0).toNat : Int) = y := ⟨_, rfl⟩
      have hy47 : (y == 47) = false := by
        rw [beq_eq_false_iff_ne, ← hy]
        intro e
        exact h47 (byte_eq (n := 47) (by omega) e)
      rw [hy, Nat.add_zero] at hc0
      have hn0 : 0 < n := by omega
      clear hy h47 hk0
      go_wp2_with fail
      refine (suf_c _ n k r T _ HT.out h20 HKR.out hr0 (by exact HR2.out)).mono ?_
      rintro e w4 ⟨rfl, q4, rfl⟩
      go_wp2
      go_ret
      exact ⟨rfl, below_drewN HB2.out _⟩
end shape
end Go.Proofs.Qxb6002681a
