import Derived.Test.Qxb6001367aClone
namespace Go.Proofs.Qxb6001367a
open Go.RowKit

set_option maxHeartbeats 400000 in
theorem equal_yes (a1 a2 : Option Addr) (c1 c2 : Nat) (L : List Nat) (w : World) (hlen : L.length ≤ 1048576)
    (h1 : L.length ≠ 0 → ∃ g o, a1 = some ⟨g, o, none⟩ ∧ Row w g o L) (h2 : L.length ≠ 0 → ∃ g o, a2 = some ⟨g, o, none⟩ ∧ Row w g o L) :
    Calls Try.prog 13 #[.slice a1 L.length c1, .slice a2 L.length c2] w fun e w' => e = .returned (.bool true) ∧ Below w.heap.size w w' := by
  by_cases hz : L.length = 0
  · rw [hz]
    clear h1 h2
    go_enter Try.func13, Try.ntmps13
    go_wp2
    refine wp_loop_rounds 1 ?_
    rw [rounds_succ]
    go_wp2
    go_ret
    exact ⟨rfl, Below.refl _ _⟩
  · obtain ⟨g1, o1, rfl, r1⟩ := h1 hz
    obtain ⟨g2, o2, rfl, r2⟩ := h2 hz
    obtain ⟨n, hn⟩ : ∃ n, L.length = n := ⟨_, rfl⟩
    rw [hn] at hlen hz ⊢
    have hne : ((n : Int) != (n : Int)) = false := by simp
    go_enter Try.func13, Try.ntmps13
    go_wp2
    go_loopw [5] (fun i wr => ∃ k q : Nat, k ≤ n ∧ i = .int .i64 k ∧ wr = w.drewN q) (fun i _ => n - (intOf i).toNat)
    case atStart => exact ⟨0, 0, Nat.zero_le _, rfl, rfl⟩
    case round =>
      obtain ⟨k, q, hk, rfl, rfl⟩ := hrel
      by_cases hlt : k < n
      · obtain ⟨x, hx⟩ : ∃ x, L.getD k 0 = x := ⟨_, rfl⟩
        have c1 := r1.at k (by omega)
        have c2 := r2.at k (by omega)
        rw [hx] at c1 c2
        have hlt' : (k : Int) < (n : Int) := by omega
        clear hx
        go_wp2
        go_quiet (fail)
        go_wp2
        go_roundw
        case rel => exact ⟨k + 1, _, by omega, by go_num, rfl⟩
        case measure => simp [intOf]; omega
      · go_wp2
        go_ret
        exact ⟨rfl, below_drewN (Below.refl _ _) _⟩
end Go.Proofs.Qxb6001367a
