import Derived.Test.Qxb6002681aFind
import Derived.Lib.SlBytesConst
namespace Go.Proofs.Qxb6002681a
open Go.RowKit

theorem cells_at {w w1 : World} {ao : Option Addr} {L : List UInt8} {B : Nat} (h : Cells w ao L) (hB : w.heap.size ≤ B) (hb : Below B w w1) : ∀ ad, ao = some ad → ∀ j u, (cellsOf L)[j]? = some u → w1.cell? (ad.add j) = some u := by
  intro ad had j u hj
  rw [cellsOf, List.getElem?_map] at hj
  obtain ⟨x, hx, rfl⟩ := Option.map_eq_some_iff.1 hj
  obtain ⟨hjl, hxe⟩ := List.getElem?_eq_some_iff.1 hx
  obtain ⟨g, off, ha, hc⟩ := h (by omega)
  rw [had] at ha
  obtain rfl := Option.some.inj ha
  rw [Addr.add_lit]
  have h0 := hc j hjl
  have hlt := World.block_lt_of_cell? w _ h0
  rw [hb.cell (p := ⟨g, off + j, none⟩) (Nat.lt_of_lt_of_le hlt hB), h0]
  simp [List.getD, hx]

set_option maxHeartbeats 1000000 in
theorem cat_any (a1 a2 : Option Addr) (n1 c1 n2 c2 : Nat) (L1 L2 : List UInt8) (w : World) (hL1 : L1.length = n1) (hL2 : L2.length = n2) (hn : n1 + n2 ≤ 2097152)
    (h1 : Cells w a1 L1) (h2 : Cells w a2 L2) (hz1 : a1 = none → n1 = 0 ∧ c1 = 0) (hz2 : a2 = none → n2 = 0 ∧ c2 = 0) :
    Calls Try.prog 19 #[.slice a1 n1 c1, .slice a2 n2 c2] w fun e w' => e = .returned (.slice (some ⟨w.heap.size, 0, none⟩) (n1 + n2) (n1 + n2)) ∧ Row w' w.heap.size 0 (L1 ++ L2) ∧ w.heap.size < w'.heap.size ∧ Below w.heap.size w w' := by
  obtain ⟨i0, hi, hz0, hz11, hzb⟩ := info_parts Try.info5
  have HA1 := show Hid _ from hz1
  have HA2 := show Hid _ from hz2
  have HL1 := show Hid _ from hL1
  have HL2 := show Hid _ from hL2
  have HC1 : Hid (Cells w a1 L1) := h1
  have HC2 : Hid (Cells w a2 L2) := h2
  clear hz1 hz2 hL1 hL2 h1 h2
  go_enter Try.func19, Try.ntmps19
  go_wp2_with (at_make; refine wpList_make_own _ rfl _ _ 22 rfl w.heap.size 5 i0 (.int .u8 0) 1 Try.underlying22 hi hz0 hz11 _ _ _ (n1 + n2) rfl rfl (by omega) (by rw [hzb]; omega) (by unfold maxLen; omega) (Nat.le_refl _) ?_)
  intro w1 hown1 hgr1
  have hb1 : Below w.heap.size w w1 := (Below.refl _ _).grown hgr1 (Nat.le_refl _) (by intro k hk; cases hk)
  clear hgr1
  go_wp2_with (at_builtin; refine wpList_append_fits_any _ rfl (.tmp 12) (.tmp 13) 22 rfl w.heap.size 5 i0 1 Try.underlying22 hi hz11 w.heap.size 0 (n1 + n2) [] rfl hown1 a1 n1 c1 (cellsOf L1) rfl ?c1 ?c2 ?c3 (cellsOf_one L1) ?c4 ?_)
  case c1 => rw [cellsOf_length, HL1.out]; omega
  case c2 => exact HA1.out
  case c3 => exact cells_at HC1.out (Nat.le_refl _) hb1
  case c4 => omega
  intro w2 hown2 hgr2
  have hs1 : w.heap.size < w1.heap.size := (hown1.lt _ rfl).2
  have hb2 : Below w.heap.size w w2 := hb1.grown hgr2 (by omega) (by intro k hk; injection hk with hk; omega)
  clear hgr2 hown1 hb1
  go_wp2_with (at_builtin; refine wpList_append_fits_any _ rfl (.tmp 15) (.tmp 16) 22 rfl w.heap.size 5 i0 1 Try.underlying22 hi hz11 w.heap.size n1 (n1 + n2) (cellsOf L1) rfl hown2 a2 n2 c2 (cellsOf L2) rfl ?d1 ?d2 ?d3 (cellsOf_one L2) ?d4 ?_)
  case d1 => rw [cellsOf_length, HL2.out]; omega
  case d2 => exact HA2.out
  case d3 => exact cells_at HC2.out (Nat.le_refl _) hb2
  case d4 => omega
  intro w3 hown3 hgr3
  have hs2 : w.heap.size < w2.heap.size := (hown2.lt _ rfl).2
  have hb3 : Below w.heap.size w w3 := hb2.grown hgr3 (by omega) (by intro k hk; injection hk with hk; omega)
  have hs3 : w.heap.size < w3.heap.size := (hown3.lt _ rfl).2
  have hr3 : Row w3 w.heap.size 0 (L1 ++ L2) := Row.owned (by rw [List.map_append]; exact hown3)
  clear hgr3 hown3 hown2 hb2
  go_wp2
  go_ret
  exact ⟨rfl, hr3, hs3, hb3⟩
end Go.Proofs.Qxb6002681a
