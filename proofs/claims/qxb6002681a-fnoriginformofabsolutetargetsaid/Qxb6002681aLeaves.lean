import Derived.Test.Qxb6002681aRows
import Derived.Test.Qxb6002681aMem
import Derived.Test.Qxb6002681aShelf
import Derived.WalkSpells
import Derived.BigQuiet
import Derived.Deep.QuietTactic
import Derived.Laws.CopyOwn
namespace Go.Proofs.Qxb6002681a
open Go.RowKit

theorem Try.info5 : (Try.prog.info? 5).map (fun i => (i.zero, i.size, i.bytes)) = some (some (.int .u8 0), 1, 1) := by kernel_rfl
theorem Try.size5 : (Try.prog.info? 5).map (·.size) = some 1 := by kernel_rfl
theorem q22 (w : World) (a : Option Addr) (n c n' c' : Nat) : (binOp .eql 22 (.slice a n c) (.slice none n' c')).run Try.prog w = .ok (.bool a.isNone) w := Lib.run_eql_slice_nil w _ _ a n c n' c' Try.underlying22

def cellsOf (L : List UInt8) : List Value := L.map (fun (x : UInt8) => Value.int .u8 (x.toNat : Int))
theorem cellsOf_length (L : List UInt8) : (cellsOf L).length = L.length := by simp [cellsOf]
theorem cellsOf_one (L : List UInt8) : ∀ u ∈ cellsOf L, u.oneCell' = true := by
  intro u hu; obtain ⟨x, _, rfl⟩ := List.mem_map.1 hu; rfl
theorem Row.ofBlock {w : World} {g : Nat} {cur : Array Value} {L : List UInt8} (h : w.heap[g]? = some (.cells cur 5 (0, 0))) (ht : cur.toList.take L.length = cellsOf L) : Row w g 0 L := by
  intro j hj
  rw [Nat.zero_add]
  refine ⟨?_, frozen_of_row w g j cur 5 h⟩
  rw [cell_of_row w g j cur 5 (0, 0) h]
  have : (cur.toList.take L.length)[j]? = (cellsOf L)[j]? := by rw [ht]
  rw [List.getElem?_take, if_pos hj] at this
  rw [← Array.getElem?_toList, this]
  simp [cellsOf, hj]

theorem clone_nil (w : World) : Calls Try.prog 12 #[.slice none 0 0] w fun e w' => e = .returned (.slice none 0 0) ∧ w = w' := by
  have q := q22
  go_enter Try.func12, Try.ntmps12
  go_wp2
  go_ret
  exact ⟨rfl, rfl⟩

set_option maxHeartbeats 400000 in
theorem clone_some (a : Addr) (len cap : Nat) (L : List UInt8) (w : World) (hL : L.length = len) (hlen : len ≤ 1048576)
    (hc : ∀ i, i < len → w.cell? (a.add i) = some (.int .u8 ((L.getD i 0).toNat : Int))) :
    Calls Try.prog 12 #[.slice (some a) len cap] w fun e w' => e = .returned (.slice (some ⟨w.heap.size, 0, none⟩) len len) ∧ Row w' w.heap.size 0 L ∧ w.heap.size < w'.heap.size ∧ Below w.heap.size w w' := by
  have q := q22
  obtain ⟨i0, hi, hz0, hz1, hz2⟩ := info_parts Try.info5
  have HC : Hid (∀ i, i < len → w.cell? (a.add i) = some (.int .u8 ((L.getD i 0).toNat : Int))) := hc
  have HL : Hid (L.length = len) := hL
  clear hc hL
  go_enter Try.func12, Try.ntmps12
  go_wp2_with (at_make; refine wpList_make_full _ rfl _ _ 22 rfl w.heap.size 5 i0 (.int .u8 0) 1 Try.underlying22 hi hz0 hz1 _ _ _ _ len rfl rfl rfl rfl (by rw [hz2]; omega) (by unfold maxLen; omega) (Nat.le_refl _) ?_)
  intro w1 hown hgr
  obtain ⟨cur, hcur, hcl⟩ : ∃ cur : List Value, w1.heap[w.heap.size]? = some (.cells cur.toArray 5 (0, 0)) ∧ cur.length = len := by
    rcases hown.2 with ⟨h, _⟩ | ⟨g, cap', cur, h, _, hg, _, _, hcs, _⟩
    · cases h
    · injection h with h1 h2 h3
      injection h1 with h1
      injection h1 with h1
      subst h1; subst h3
      exact ⟨cur.toList, by simpa using hg, by simpa using hcs⟩
  have hbel : Below w.heap.size w w1 := (Below.refl _ _).grown hgr (Nat.le_refl _) (by intro k hk; cases hk)
  have hsz : w.heap.size < w1.heap.size := (Array.getElem?_eq_some_iff.1 hcur).1
  have HCL := show Hid _ from hcl
  have HCU := show Hid _ from hcur
  clear hown hgr hcl hcur
  go_wp2_with (refine wpList_copy_splice rfl (.tmp 9) (.tmp 10) 22 22 rfl 5 Try.underlying22 Try.size5 _ _ _ _ _ _ rfl rfl w.heap.size 0 cur 5 HCU.out (cellsOf L) ?h1 ?h2 ?h3 (cellsOf_one L) w.heap.size w hbel (Nat.le_refl _) ?h4)
  case h1 => rw [cellsOf_length, HL.out]; simp
  case h2 =>
    intro _ j v hj
    rw [cellsOf, List.getElem?_map] at hj
    obtain ⟨x, hx, rfl⟩ := Option.map_eq_some_iff.1 hj
    obtain ⟨hjl, hxe⟩ := List.getElem?_eq_some_iff.1 hx
    have h0 := HC.out j (by have := HL.out; omega)
    rw [hbel.cell (World.block_lt_of_cell? w _ h0), h0]
    simp [List.getD, hx]
  case h3 => have := HL.out; have := HCL.out; rw [cellsOf_length]; omega
  intro w2 hg2 hb2
  have hr : Row w2 w.heap.size 0 L := by
    refine Row.ofBlock hg2.out ?_
    have h1 : cellsOf L ++ cur.drop (0 + (cellsOf L).length) = splice cur 0 (cellsOf L) := by simp [splice]
    show (splice cur 0 (cellsOf L)).take L.length = cellsOf L
    rw [← h1, ← cellsOf_length L, List.take_left]
  have hsz2 : w.heap.size < w2.heap.size := (Array.getElem?_eq_some_iff.1 hg2.out).1
  clear hg2
  go_wp2
  go_ret
  exact ⟨rfl, hr, hsz2, hb2⟩

set_option maxHeartbeats 400000 in
theorem equal_yes (a1 a2 : Option Addr) (c1 c2 n : Nat) (L : List UInt8) (w : World) (hL : L.length = n) (hlen : n ≤ 1048576)
    (h1 : n ≠ 0 → ∃ g o, a1 = some ⟨g, o, none⟩ ∧ Row w g o L) (h2 : n ≠ 0 → ∃ g o, a2 = some ⟨g, o, none⟩ ∧ Row w g o L) :
    Calls Try.prog 20 #[.slice a1 n c1, .slice a2 n c2] w fun e w' => e = .returned (.bool true) ∧ ∃ q, w' = w.drewN q := by
  by_cases hz : n = 0
  · subst hz
    clear h1 h2
    go_enter Try.func20, Try.ntmps20
    go_wp2
    refine wp_loop_rounds 1 ?_
    rw [rounds_succ]
    go_wp2
    go_ret
    exact ⟨rfl, 0, rfl⟩
  · obtain ⟨g1, o1, rfl, r1⟩ := h1 hz
    obtain ⟨g2, o2, rfl, r2⟩ := h2 hz
    have HL := show Hid _ from hL
    clear hL h1 h2
    have hne : ((n : Int) != (n : Int)) = false := by simp
    go_enter Try.func20, Try.ntmps20
    go_wp2
    go_loopw [5] (fun i wr => ∃ k q : Nat, k ≤ n ∧ i = .int .i64 k ∧ wr = w.drewN q) (fun i _ => n - (intOf i).toNat)
    case atStart => exact ⟨0, 0, Nat.zero_le _, rfl, rfl⟩
    case round =>
      obtain ⟨k, q, hk, rfl, rfl⟩ := hrel
      by_cases hlt : k < n
      · obtain ⟨x, hx⟩ : ∃ x, ((L.getD k 0).toNat : Int) = x := ⟨_, rfl⟩
        have c1 := r1.at k (by have := HL.out; omega)
        have c2 := r2.at k (by have := HL.out; omega)
        rw [hx] at c1 c2
        have hlt' : (k : Int) < (n : Int) := by omega
        clear hx
        go_wp2
        go_quiet (fail)
        go_wp2
        go_roundw
        case rel => exact ⟨k + 1, _, by omega, by go_num, rfl⟩
        case measure => simp [intOf]; omega
      · go_wp2
        go_ret
        exact ⟨rfl, q, rfl⟩
end Go.Proofs.Qxb6002681a
