import Derived.Test.Qxb6002681aLeaves
namespace Go.Proofs.Qxb6002681a
open Go.RowKit

/-- what is read of a slice: its bytes L, wherever they lie -/
def Cells (w : World) (a : Option Addr) (L : List UInt8) : Prop :=
  L.length ≠ 0 → ∃ g off, a = some ⟨g, off, none⟩ ∧ ∀ i, i < L.length → w.cell? ⟨g, off + i, none⟩ = some (.int .u8 ((L.getD i 0).toNat : Int))
theorem Row.cells {w : World} {g off : Nat} {L : List UInt8} (h : Row w g off L) : Cells w (some ⟨g, off, none⟩) L := fun _ => ⟨g, off, rfl, fun i hi => h.at i hi⟩
theorem Cells.drewN {w : World} {a : Option Addr} {L : List UInt8} (h : Cells w a L) (n : Nat) : Cells (w.drewN n) a L := h
theorem Cells.below {w w' : World} {a : Option Addr} {L : List UInt8} (h : Cells w a L) (hb : Below w.heap.size w w') : Cells w' a L := by
  intro hn
  obtain ⟨g, off, hx, hc⟩ := h hn
  refine ⟨g, off, hx, fun i hi => ?_⟩
  rw [hb.cell (World.block_lt_of_cell? w _ (hc i hi))]
  exact hc i hi
theorem Cells.of_add {w : World} {x : Addr} {L : List UInt8} (h : ∀ i, i < L.length → w.cell? (x.add i) = some (.int .u8 ((L.getD i 0).toNat : Int))) : Cells w (some x) L := by
  intro hn
  obtain ⟨b, off, spot⟩ := x
  have hspot : spot = none := by simpa [Addr.add] using World.cell?_spot (h 0 (by omega))
  subst hspot
  exact ⟨b, off, rfl, fun i hi => by rw [← Addr.add_lit]; exact h i hi⟩

/-- CR LF stands at i -/
def At (L : List UInt8) (i : Nat) : Prop := i + 1 < L.length ∧ L.getD i 0 = 13 ∧ L.getD (i + 1) 0 = 10
theorem byte_eq {x : UInt8} {n : Nat} (hn : n < 256) (h : ((x.toNat : Nat) : Int) = (n : Int)) : x = UInt8.ofNat n := by
  apply UInt8.toNat_inj.1
  rw [UInt8.toNat_ofNat']
  omega

theorem no_step {L : List UInt8} {k : Nat} (h : ∀ i, i < k → ¬ At L i) (hk : ¬ At L k) : ∀ i, i < k + 1 → ¬ At L i := by
  intro i hi
  by_cases e : i = k
  · subst e; exact hk
  · exact h i (by omega)

set_option maxHeartbeats 400000 in
theorem crlf_any (a : Option Addr) (n c : Nat) (L : List UInt8) (b : Bool) (w : World) (hL : L.length = n) (hlen : n ≤ 2097152) (hc : Cells w a L) (hb : b = true ↔ ∃ i, At L i) :
    Calls Try.prog 22 #[.slice a n c] w fun e w' => e = .returned (.bool b) ∧ w = w' := by
  have HL := show Hid _ from hL
  have HB := show Hid _ from hb
  by_cases hz : n = 0
  · subst hz
    have hbf : b = false := by
      cases b with
      | false => rfl
      | true =>
        obtain ⟨i, h1, _⟩ := hb.1 rfl
        omega
    subst hbf
    clear hb hc hL
    go_enter Try.func22, Try.ntmps22
    go_wp2
    refine wp_loop_rounds 1 ?_
    rw [rounds_succ]
    go_wp2
    go_ret
    exact ⟨rfl, rfl⟩
  · obtain ⟨g, off, rfl, hcx⟩ := hc (by omega)
    have HC := show Hid _ from hcx
    clear hc hL hcx hb
    go_enter Try.func22, Try.ntmps22
    go_wp2
    go_loop [3] (fun i => ∃ k : Nat, k ≤ n ∧ i = .int .i64 k ∧ ∀ i, i < k → ¬ At L i) (fun i => n - (intOf i).toNat)
    case atStart => exact ⟨0, Nat.zero_le _, rfl, fun i h => by omega⟩
    case round =>
      obtain ⟨k, hk, rfl, hno⟩ := hrel
      have HN := show Hid _ from hno
      clear hno
      by_cases hlt : k + 1 < n
      · obtain ⟨u, hu⟩ : ∃ u, (L.getD k 0).toNat = u := ⟨_, rfl⟩
        obtain ⟨v, hv⟩ : ∃ v, (L.getD (k + 1) 0).toNat = v := ⟨_, rfl⟩
        have cu := HC.out k (by have := HL.out; omega)
        have cv := HC.out (k + 1) (by have := HL.out; omega)
        rw [hu] at cu
        rw [hv] at cv
        have HU := show Hid _ from hu
        have HV := show Hid _ from hv
        clear hu hv
        by_cases h13 : (u : Int) = 13
        · by_cases h10 : (v : Int) = 10
          · have hbt : b = true := HB.out.2 ⟨k, by have := HL.out; omega, byte_eq (n := 13) (by omega) (by rw [HU.out]; exact h13), byte_eq (n := 10) (by omega) (by rw [HV.out]; exact h10)⟩
            have HBT := show Hid _ from hbt
            clear hbt
            go_wp2
            go_ret
            exact ⟨ret_bool HBT.out.symm, rfl⟩
          · have HS : Hid (¬ At L k) := fun h => h10 (by rw [← HV.out, h.2.2]; rfl)
            go_wp2
            go_round
            case rel => exact ⟨k + 1, by omega, by go_num, no_step HN.out HS.out⟩
            case measure => simp [intOf]; omega
        · have HS : Hid (¬ At L k) := fun h => h13 (by rw [← HU.out, h.2.1]; rfl)
          go_wp2
          go_round
          case rel => exact ⟨k + 1, by omega, by go_num, no_step HN.out HS.out⟩
          case measure => simp [intOf]; omega
      · have hbf : b = false := by
          cases hb : b with
          | false => rfl
          | true =>
            obtain ⟨i, hi⟩ := HB.out.1 hb
            have := hi.1
            exact absurd hi (HN.out i (by have := HL.out; omega))
        have HBF := show Hid _ from hbf
        clear hbf
        go_wp2
        go_ret
        exact ⟨ret_bool HBF.out.symm, rfl⟩
end Go.Proofs.Qxb6002681a
