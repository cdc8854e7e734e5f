import Derived.Test.Qxb6002681aHead
namespace Go.Proofs.Qxb6002681a
open Go.RowKit

set_option maxHeartbeats 400000 in
theorem head_nil (w : World) :
    Calls Try.prog 26 #[.slice none 0 0, .int .i64 0] w fun e w' => e = .returned (.tuple #[.int .i64 0, .int .i64 (-1)]) ∧ Below w.heap.size w w' := by
  have kc := fun (w : World) (C : Array Value) (n c : Nat) => Lib.run_convert_bytes_const (P := Try.prog) w 22 5 C n c Try.underlying22 Try.underlying5
  go_enter Try.func26, Try.ntmps26
  go_wp2_with fail
  refine wp_loop_rounds 1 ?_
  rw [rounds_succ]
  go_wp2_with fail
  refine (Try.bytes_HasPrefix_all none (some ⟨w.heap.size, 0, none⟩) 0 0 2 2 [] [13, 10] _ rfl rfl (Nat.le_refl _) (Lib.BytesIn.nil _ _ _) (Lib.BytesIn.of_cells ?hc)).mono ?_
  case hc =>
    intro i hi
    rw [Addr.add_lit, Nat.zero_add, World.cell?_alloc_mark]
    match i, hi with
    | 0, _ => rfl
    | 1, _ => rfl
  rintro e wA ⟨rfl, hw⟩
  have hbA : Below w.heap.size w wA := by rw [hw]; exact (Below.refl _ _).alloc (Nat.le_refl _) _
  have hf : Lib.hasPrefix (Lib.bytesOf []) (Lib.bytesOf [13, 10]) = false := rfl
  rw [hf]
  clear hw hf
  have hmx : max (0 : Int) (-3) = 0 := by decide
  go_wp2_with fail
  refine (Try.bytes_Index_nil (some ⟨wA.heap.size, 0, none⟩) 4 4 _ (by omega) (fun h => absurd h (by decide))).mono ?_
  rintro e wB ⟨rfl, hw⟩
  have hbB : Below w.heap.size w wB := by rw [hw]; exact hbA.alloc hbA.size _
  rw [show (if (4 : Nat) = 0 then (0 : Int) else -1) = -1 from rfl]
  clear hw hbA
  go_wp2
  go_ret2
  exact ⟨rfl, hbB⟩

theorem e4_iff (L : List UInt8) (p : Nat) : E4 L p ↔ p + 4 ≤ L.length ∧ L.getD p 0 = 13 ∧ L.getD (p + 1) 0 = 10 ∧ L.getD (p + 2) 0 = 13 ∧ L.getD (p + 3) 0 = 10 := by
  unfold E4 Occ
  constructor
  · rintro ⟨h1, h2⟩
    exact ⟨h1, h2 0 (by simp), h2 1 (by simp), h2 2 (by simp), h2 3 (by simp)⟩
  · rintro ⟨h1, h2, h3, h4, h5⟩
    refine ⟨h1, fun t ht => ?_⟩
    match t, ht with
    | 0, _ => exact h2
    | 1, _ => exact h3
    | 2, _ => exact h4
    | 3, _ => exact h5

set_option maxHeartbeats 1000000 in
theorem emp_any (g n p : Nat) (L : List UInt8) (b : Bool) (w : World) (hL : L.length = n) (hn : n ≤ 1048576) (hp : p + 4 ≤ n) (hr : Row w g 0 L) (hb : b = true ↔ E4 L p) :
    Calls Try.prog 28 #[.slice (some ⟨g, 0, none⟩) n n, .int .i64 (p : Int)] w fun e w' => e = .returned (.bool b) ∧ w = w' := by
  have c0 := hr.at p (by omega)
  have c1 := hr.at (p + 1) (by omega)
  have c2 := hr.at (p + 2) (by omega)
  have c3 := hr.at (p + 3) (by omega)
  rw [e4_iff] at hb
  rw [Nat.zero_add] at c0 c1 c2 c3
  obtain ⟨x0, hx0⟩ : ∃ x, L.getD p 0 = x := ⟨_, rfl⟩
  obtain ⟨x1, hx1⟩ : ∃ x, L.getD (p + 1) 0 = x := ⟨_, rfl⟩
  obtain ⟨x2, hx2⟩ : ∃ x, L.getD (p + 2) 0 = x := ⟨_, rfl⟩
  obtain ⟨x3, hx3⟩ : ∃ x, L.getD (p + 3) 0 = x := ⟨_, rfl⟩
  rw [hx0] at c0 hb
  rw [hx1] at c1 hb
  rw [hx2] at c2 hb
  rw [hx3] at c3 hb
  have HB := show Hid _ from hb
  have hple : (p : Int) ≤ (n : Int) - 4 := by omega
  have HLn := show Hid _ from hL
  clear hb hx0 hx1 hx2 hx3 hr hL
  have nof : (¬ ((x0.toNat : Int) = 13 ∧ (x1.toNat : Int) = 10 ∧ (x2.toNat : Int) = 13 ∧ (x3.toNat : Int) = 10)) → b = false := by
    intro hn
    cases hb : b with
    | false => rfl
    | true =>
      obtain ⟨_, rfl, rfl, rfl, rfl⟩ := HB.out.1 hb
      exact absurd ⟨rfl, rfl, rfl, rfl⟩ hn
  by_cases h0 : (x0.toNat : Int) = 13
  · by_cases h1 : (x1.toNat : Int) = 10
    · by_cases h2 : (x2.toNat : Int) = 13
      · by_cases h3 : (x3.toNat : Int) = 10
        · have hbt : b = true := HB.out.2 ⟨by have := HLn.out; omega, byte_eq (n := 13) (by omega) h0, byte_eq (n := 10) (by omega) h1, byte_eq (n := 13) (by omega) h2, byte_eq (n := 10) (by omega) h3⟩
          subst hbt
          clear nof HB
          go_enter Try.func28, Try.ntmps28
          go_wp2
          go_ret
          exact ⟨rfl, rfl⟩
        · have hbf : b = false := nof (fun h => h3 h.2.2.2)
          have h3' : ((x3.toNat : Int) == 10) = false := beq_eq_false_iff_ne.2 h3
          subst hbf
          clear nof HB
          go_enter Try.func28, Try.ntmps28
          go_wp2
          go_ret
          exact ⟨rfl, rfl⟩
      · have hbf : b = false := nof (fun h => h2 h.2.2.1)
        subst hbf
        clear nof HB
        go_enter Try.func28, Try.ntmps28
        go_wp2
        go_ret
        exact ⟨rfl, rfl⟩
    · have hbf : b = false := nof (fun h => h1 h.2.1)
      subst hbf
      clear nof HB
      go_enter Try.func28, Try.ntmps28
      go_wp2
      go_ret
      exact ⟨rfl, rfl⟩
  · have hbf : b = false := nof (fun h => h0 h.1)
    subst hbf
    clear nof HB
    go_enter Try.func28, Try.ntmps28
    go_wp2
    go_ret
    exact ⟨rfl, rfl⟩
end Go.Proofs.Qxb6002681a
