import Derived.Test.Qxb6002681aEmpty
namespace Go.Proofs.Qxb6002681a
open Go.RowKit
namespace headlaw

set_option maxHeartbeats 400000 in
theorem bytes_any (a : Option Addr) (len cap : Nat) (b : Bool) (w : World) (hl : len ≤ maxLen) (h : b = decide (len ≤ 1048576)) :
    Calls Try.prog 27 #[.slice a len cap] w fun e w' => e = .returned (.bool b) ∧ w = w' := by
  unfold maxLen at hl
  by_cases h1 : len ≤ 1048576
  · obtain rfl : b = true := by rw [h]; simpa using h1
    clear h
    go_enter Try.func27, Try.ntmps27
    go_wp2
    go_ret
    exact ⟨rfl, rfl⟩
  · obtain rfl : b = false := by rw [h]; simpa using h1
    clear h
    go_enter Try.func27, Try.ntmps27
    go_wp2
    go_ret
    exact ⟨rfl, rfl⟩

set_option maxHeartbeats 1000000 in
theorem walk_nil (w : World) : Calls Try.prog 9 #[.slice none 0 0] w fun e w' => e = .returned (.bool true) ∧ Below w.heap.size w w' := by
  go_enter Try.func9, Try.ntmps9
  go_wp2_with (first
    | (go_at_call 27; refine (bytes_any none 0 0 true _ (Nat.zero_le _) rfl).mono ?_; rintro e w' ⟨rfl, rfl⟩)
    | (go_at_call 12; refine (clone_nil _).mono ?_; rintro e w' ⟨rfl, rfl⟩)
    | (go_at_call 26; refine (head_nil _).mono ?_; rintro e w1 ⟨rfl, hb1⟩))
  refine wp_loop_rounds 1 ?_
  rw [rounds_succ]
  go_wp2_with fail
  refine wp_loop_rounds 1 ?_
  rw [rounds_succ]
  go_wp2
  go_ret
  exact ⟨rfl, hb1⟩

theorem walk_big (a : Option Addr) (len cap : Nat) (w : World) (hlm : len ≤ maxLen) (h20 : ¬ len ≤ 1048576) : Calls Try.prog 9 #[.slice a len cap] w fun e w' => e = .returned (.bool true) ∧ Below w.heap.size w w' := by
  go_enter Try.func9, Try.ntmps9
  go_wp2_with (go_at_call 27; refine (bytes_any _ _ _ false _ hlm (by simpa using h20)).mono ?_; rintro e w' ⟨rfl, rfl⟩)
  go_ret
  exact ⟨rfl, Below.refl _ _⟩

theorem nat_cases (L : List UInt8) (s n : Nat) (hL : L.length = n) (h : ¬ At L s) : ¬ s + 1 < n ∨ (s + 1 < n ∧ ¬ ((L.getD s 0).toNat : Int) = 13) ∨ (s + 1 < n ∧ L.getD s 0 = 13 ∧ ¬ ((L.getD (s + 1) 0).toNat : Int) = 10) := by
  by_cases h1 : s + 1 < n
  · by_cases h2 : ((L.getD s 0).toNat : Int) = 13
    · by_cases h3 : ((L.getD (s + 1) 0).toNat : Int) = 10
      · exact absurd ⟨by omega, byte_eq (n := 13) (by omega) h2, byte_eq (n := 10) (by omega) h3⟩ h
      · exact Or.inr (Or.inr ⟨h1, byte_eq (n := 13) (by omega) h2, h3⟩)
    · exact Or.inr (Or.inl ⟨h1, h2⟩)
  · exact Or.inl h1

set_option maxHeartbeats 4000000 in
theorem walk_some (x : Addr) (n cap : Nat) (L : List UInt8) (m : Int) (w : World) (h20 : n ≤ 1048576) (hL : L.length = n) (hc : ∀ i, i < n → w.cell? (x.add i) = some (.int .u8 ((L.getD i 0).toNat : Int))) (hm : w.cell? ⟨0, 0, none⟩ = some (.int .i64 m)) :
    Calls Try.prog 9 #[.slice (some x) n cap] w fun e w' => e = .returned (.bool true) ∧ Below w.heap.size w w' := by
  have h0 : 0 < w.heap.size := World.block_lt_of_cell? w ⟨0, 0, none⟩ hm
  have HC := show Hid _ from hc
  have HL := show Hid _ from hL
  have HM := show Hid _ from hm
  clear hc hL hm
  go_enter Try.func9, Try.ntmps9
  go_wp2_with (first
    | (go_at_call 27; refine (bytes_any _ _ _ true _ (by unfold maxLen; omega) (by simpa using h20)).mono ?_; rintro e w' ⟨rfl, rfl⟩)
    | (go_at_call 12; refine (clone_some _ _ _ L _ HL.out h20 HC.out).mono ?_; rintro e w1 ⟨rfl, hr1, hs1, hb1⟩))
  refine (head_any w.heap.size n L m w1 HL.out h20 hs1 (by omega) hr1 (by rw [hb1.cell (p := ⟨0, 0, none⟩) h0]; exact HM.out)).mono ?_
  rintro e w2 ⟨s, en, rfl, hHE, hb2⟩
  have HR2 : Hid (Row w2 w.heap.size 0 L) := hr1.below hb2 hs1
  have HB2 : Hid (Below w.heap.size w w2) := hb1.trans (hb2.mono hb1.size)
  clear hr1 hb1 hb2
  obtain ⟨⟨k, hk⟩, hsn, hpre, hna, hcase⟩ := hHE
  rw [HL.out] at hsn
  have hm2 : ((s : Int) % 2 != 0) = false := by rw [bne_eq_false_iff_eq]; omega
  have hm3 : ((s : Int).tmod 2 != 0) = false := by rw [Int.tmod_eq_emod_of_nonneg (by omega)]; exact hm2
  have HK := show Hid _ from hk
  have HPRE := show Hid _ from hpre
  have HNA : Hid (¬ At L s) := hna
  clear hk hpre hna
  rcases hcase with ⟨rfl, hen⟩ | ⟨t, rfl, heu, hen⟩
  · have HEN := show Hid _ from hen
    clear hen
    go_wp2_with fail
    go_loop [5] (fun v => ∃ i j : Nat, i = 2 * j ∧ i ≤ s ∧ v = .int .i64 i) (fun v => s - (intOf v).toNat)
    case atStart => exact ⟨0, 0, rfl, Nat.zero_le _, rfl⟩
    case round =>
      obtain ⟨i, j, hij, his, rfl⟩ := hrel
      have HIJ := show Hid _ from hij
      clear hij
      by_cases hlt : i < s
      · have hat : At L i := by have := HPRE.out j (by have := HIJ.out; omega); rw [← HIJ.out] at this; exact this
        have ci := HR2.out.at i (by have := HL.out; omega)
        have cj := HR2.out.at (i + 1) (by have := hat.1; omega)
        rw [hat.2.1, Nat.zero_add] at ci
        rw [hat.2.2, Nat.zero_add] at cj
        have hin : i + 1 < n := by have := hat.1; have := HL.out; omega
        have his2 : i + 2 ≤ s := by have := HIJ.out; have := HK.out; omega
        clear hat
        go_wp2
        go_round
        case rel => exact ⟨i + 2, j + 1, by have := HIJ.out; omega, his2, by go_num⟩
        case measure => simp [intOf]; omega
      · obtain rfl : s = i := by omega
        clear HIJ hlt his
        rcases nat_cases L s n HL.out HNA.out with hA | ⟨hB, hB13⟩ | ⟨hC, hC13, hC10⟩
        · have hd : decide ((s : Int) + 1 < (n : Int)) = false := decide_eq_false (by omega)
          go_wp2_with fail
          go_loop [6] (fun v => ∃ k : Nat, s ≤ k ∧ k ≤ n ∧ v = .int .i64 k) (fun v => n - (intOf v).toNat)
          case atStart => exact ⟨s, Nat.le_refl _, hsn, rfl⟩
          case round =>
            obtain ⟨k, hsk, hkn, rfl⟩ := hrel
            by_cases hk4 : k + 4 ≤ n
            · exfalso; omega
            · go_wp2
              go_ret
              exact ⟨rfl, HB2.out⟩
        · have hcs := HR2.out.at s (by have := HL.out; omega)
          obtain ⟨y, hy⟩ : ∃ y, ((L.getD s 0).toNat : Int) = y := ⟨_, rfl⟩
          rw [hy, Nat.zero_add] at hcs
          rw [hy] at hB13
          have hB' : (y == 13) = false := beq_eq_false_iff_ne.2 hB13
          clear hy hB13
          go_wp2_with fail
          go_loop [6] (fun v => ∃ k : Nat, s ≤ k ∧ k ≤ n ∧ v = .int .i64 k) (fun v => n - (intOf v).toNat)
          case atStart => exact ⟨s, Nat.le_refl _, hsn, rfl⟩
          case round =>
            obtain ⟨k, hsk, hkn, rfl⟩ := hrel
            by_cases hk4 : k + 4 ≤ n
            · go_wp2_with (go_at_call 28; refine (emp_any _ _ k L false _ HL.out h20 hk4 (by exact HR2.out) ⟨(fun h => by cases h), fun h => absurd h (HEN.out k hsk)⟩).mono ?_; rintro e w' ⟨rfl, rfl⟩)
              go_round
              case rel => exact ⟨k + 1, by omega, by omega, by go_num⟩
              case measure => simp [intOf]; omega
            · go_wp2
              go_ret
              exact ⟨rfl, HB2.out⟩
        · have hcs := HR2.out.at s (by have := HL.out; omega)
          have hcs1 := HR2.out.at (s + 1) (by have := HL.out; omega)
          obtain ⟨y, hy⟩ : ∃ y, ((L.getD (s + 1) 0).toNat : Int) = y := ⟨_, rfl⟩
          rw [hC13, Nat.zero_add] at hcs
          rw [hy, Nat.zero_add] at hcs1
          rw [hy] at hC10
          have hC' : (y == 10) = false := beq_eq_false_iff_ne.2 hC10
          clear hy hC13 hC10
          go_wp2_with fail
          go_loop [6] (fun v => ∃ k : Nat, s ≤ k ∧ k ≤ n ∧ v = .int .i64 k) (fun v => n - (intOf v).toNat)
          case atStart => exact ⟨s, Nat.le_refl _, hsn, rfl⟩
          case round =>
            obtain ⟨k, hsk, hkn, rfl⟩ := hrel
            by_cases hk4 : k + 4 ≤ n
            · go_wp2_with (go_at_call 28; refine (emp_any _ _ k L false _ HL.out h20 hk4 (by exact HR2.out) ⟨(fun h => by cases h), fun h => absurd h (HEN.out k hsk)⟩).mono ?_; rintro e w' ⟨rfl, rfl⟩)
              go_round
              case rel => exact ⟨k + 1, by omega, by omega, by go_num⟩
              case measure => simp [intOf]; omega
            · go_wp2
              go_ret
              exact ⟨rfl, HB2.out⟩
  · obtain ⟨u, hu⟩ : ∃ u, s + t = u := ⟨_, rfl⟩
    rw [hu] at heu hen
    rw [show (s : Int) + (t : Int) + 4 = (u : Int) + 4 from by omega]
    have HEU : Hid (E4 L u) := heu
    have HEN := show Hid _ from hen
    have hsu : s ≤ u := by omega
    have hun : u + 4 ≤ n := by have h1 : u + 4 ≤ L.length := heu.1; have := HL.out; omega
    have hu4 : (u : Int) + 4 - 4 = (u : Int) := by omega
    have hu1 : ((u : Int) + 4 == -1) = false := beq_eq_false_iff_ne.2 (by omega)
    have hd1 : decide (u < s) = false := decide_eq_false (by omega)
    have hd2 : decide ((n : Int) < (u : Int) + 4) = false := decide_eq_false (by omega)
    have hd3 : decide ((s : Int) < 0) = false := decide_eq_false (by omega)
    have hd4 : decide ((s : Int) + 1 < (n : Int)) = true := decide_eq_true (by omega)
    clear hen heu hu
    go_wp2_with fail
    go_loop [5] (fun v => ∃ i j : Nat, i = 2 * j ∧ i ≤ s ∧ v = .int .i64 i) (fun v => s - (intOf v).toNat)
    case atStart => exact ⟨0, 0, rfl, Nat.zero_le _, rfl⟩
    case round =>
      obtain ⟨i, j, hij, his, rfl⟩ := hrel
      have HIJ := show Hid _ from hij
      clear hij
      by_cases hlt : i < s
      · have hat : At L i := by have := HPRE.out j (by have := HIJ.out; omega); rw [← HIJ.out] at this; exact this
        have ci := HR2.out.at i (by have := HL.out; omega)
        have cj := HR2.out.at (i + 1) (by have := hat.1; omega)
        rw [hat.2.1, Nat.zero_add] at ci
        rw [hat.2.2, Nat.zero_add] at cj
        have hin : i + 1 < n := by have := hat.1; have := HL.out; omega
        have his2 : i + 2 ≤ s := by have := HIJ.out; have := HK.out; omega
        clear hat
        go_wp2
        go_round
        case rel => exact ⟨i + 2, j + 1, by have := HIJ.out; omega, his2, by go_num⟩
        case measure => simp [intOf]; omega
      · obtain rfl : s = i := by omega
        clear HIJ hlt his
        rcases nat_cases L s n HL.out HNA.out with hA | ⟨hB, hB13⟩ | ⟨hC, hC13, hC10⟩
        · exfalso; omega
        · have hcs := HR2.out.at s (by have := HL.out; omega)
          obtain ⟨y, hy⟩ : ∃ y, ((L.getD s 0).toNat : Int) = y := ⟨_, rfl⟩
          rw [hy, Nat.zero_add] at hcs
          rw [hy] at hB13
          have hB' : (y == 13) = false := beq_eq_false_iff_ne.2 hB13
          clear hy hB13
          go_wp2_with fail
          refine (emp_any _ _ u L true _ HL.out h20 hun (by exact HR2.out) ⟨fun _ => HEU.out, fun _ => rfl⟩).mono ?_
          rintro e w' ⟨rfl, rfl⟩
          go_wp2_with fail
          go_loop [7] (fun v => ∃ k : Nat, s ≤ k ∧ k ≤ u ∧ v = .int .i64 k) (fun v => u - (intOf v).toNat)
          case atStart => exact ⟨s, Nat.le_refl _, hsu, rfl⟩
          case round =>
            obtain ⟨k, hsk, hkn, rfl⟩ := hrel
            by_cases hk4 : k < u
            · go_wp2_with (go_at_call 28; refine (emp_any _ _ k L false _ HL.out h20 (by omega) (by exact HR2.out) ⟨(fun h => by cases h), fun h => absurd h (HEN.out k hsk hk4)⟩).mono ?_; rintro e w' ⟨rfl, rfl⟩)
              go_round
              case rel => exact ⟨k + 1, by omega, by omega, by go_num⟩
              case measure => simp [intOf]; omega
            · go_wp2
              go_ret
              exact ⟨rfl, HB2.out⟩
        · have hcs := HR2.out.at s (by have := HL.out; omega)
          have hcs1 := HR2.out.at (s + 1) (by have := HL.out; omega)
          obtain ⟨y, hy⟩ : ∃ y, ((L.getD (s + 1) 0).toNat : Int) = y := ⟨_, rfl⟩
          rw [hC13, Nat.zero_add] at hcs
          rw [hy, Nat.zero_add] at hcs1
          rw [hy] at hC10
          have hC' : (y == 10) = false := beq_eq_false_iff_ne.2 hC10
          clear hy hC13 hC10
          go_wp2_with fail
          refine (emp_any _ _ u L true _ HL.out h20 hun (by exact HR2.out) ⟨fun _ => HEU.out, fun _ => rfl⟩).mono ?_
          rintro e w' ⟨rfl, rfl⟩
          go_wp2_with fail
          go_loop [7] (fun v => ∃ k : Nat, s ≤ k ∧ k ≤ u ∧ v = .int .i64 k) (fun v => u - (intOf v).toNat)
          case atStart => exact ⟨s, Nat.le_refl _, hsu, rfl⟩
          case round =>
            obtain ⟨k, hsk, hkn, rfl⟩ := hrel
            by_cases hk4 : k < u
            · go_wp2_with (go_at_call 28; refine (emp_any _ _ k L false _ HL.out h20 (by omega) (by exact HR2.out) ⟨(fun h => by cases h), fun h => absurd h (HEN.out k hsk hk4)⟩).mono ?_; rintro e w' ⟨rfl, rfl⟩)
              go_round
              case rel => exact ⟨k + 1, by omega, by omega, by go_num⟩
              case measure => simp [intOf]; omega
            · go_wp2
              go_ret
              exact ⟨rfl, HB2.out⟩
end headlaw
end Go.Proofs.Qxb6002681a
