import Derived.Test.Qxb6001367aRows
import Derived.Test.Qxb6001367aMem
import Derived.Test.Qxb6001367aShelf
import Derived.WalkSpells
import Derived.BigQuiet
import Derived.Deep.QuietTactic
namespace Go.Proofs.Qxb6001367a
open Go.RowKit

theorem Try.info5 : (Try.prog.info? 5).map (fun i => (i.zero, i.size, i.bytes)) = some (some (.int .u8 0), 1, 1) := by kernel_rfl

theorem clone_nil (w : World) : Calls Try.prog 10 #[.slice none 0 0] w fun e w' => e = .returned (.slice none 0 0) ∧ w' = w := by
  have q22 : ∀ (w : World) (a : Option Addr) (n c n' c' : Nat), (binOp .eql 22 (.slice a n c) (.slice none n' c')).run Try.prog w = .ok (.bool a.isNone) w := fun w a n c n' c' => Lib.run_eql_slice_nil w _ _ a n c n' c' Try.underlying22
  go_enter Try.func10, Try.ntmps10
  go_wp2
  go_ret
  exact ⟨rfl, rfl⟩

theorem made_row {w : World} {base g n : Nat} (h : w.ownsRow base 5 1 (.slice (some ⟨g, 0, none⟩) n n) n (madeCells #[Value.int .u8 0] n).toList) : Row w g 0 (List.replicate n 0) := by
  have e : (madeCells #[Value.int .u8 0] n).toList = (List.replicate n 0).map (fun (x : Nat) => Value.int .u8 (x : Int)) := by
    rw [toList_madeCells_one]
    simp
  rw [e] at h
  exact Row.owned h
theorem clone_step (L : List Nat) (len k x : Nat) (hL : L.length = len) (h : k < len) (hx : L.getD k 0 = x) : (L.take k ++ List.replicate (len - k) 0).set k x = L.take (k + 1) ++ List.replicate (len - (k + 1)) 0 := by
  have hk : (L.take k).length = k := by simp; omega
  rw [List.set_append_right k x (by omega), hk, Nat.sub_self, show len - k = (len - (k + 1)) + 1 from by omega, List.replicate_succ, List.set_cons_zero]
  have e : x = L[k] := by rw [← hx]; simp [List.getD, hL, h]
  rw [e, List.take_succ_eq_append_getElem (by omega), List.append_assoc]
  rfl

set_option maxHeartbeats 400000 in
theorem clone_some (a : Addr) (len cap : Nat) (L : List Nat) (w : World) (hL : L.length = len) (hlen : len ≤ 1048576)
    (hc : ∀ i, i < len → w.cell? (a.add i) = some (.int .u8 ((L.getD i 0 : Nat) : Int))) :
    Calls Try.prog 10 #[.slice (some a) len cap] w fun e w' => e = .returned (.slice (some ⟨w.heap.size, 0, none⟩) len len) ∧ Row w' w.heap.size 0 L ∧ Below w.heap.size w w' := by
  have q22 : ∀ (w : World) (a : Option Addr) (n c n' c' : Nat), (binOp .eql 22 (.slice a n c) (.slice none n' c')).run Try.prog w = .ok (.bool a.isNone) w := fun w a n c n' c' => Lib.run_eql_slice_nil w _ _ a n c n' c' Try.underlying22
  obtain ⟨i0, hi, hz0, hz1, hz2⟩ := info_parts Try.info5
  have HC : Hid (∀ i, i < len → w.cell? (a.add i) = some (.int .u8 ((L.getD i 0 : Nat) : Int))) := hc
  have HL : Hid (L.length = len) := hL
  clear hc hL
  go_enter Try.func10, Try.ntmps10
  go_wp2_with (at_make; refine wpList_make_full _ rfl _ _ 22 rfl w.heap.size 5 i0 (.int .u8 0) 1 Try.underlying22 hi hz0 hz1 _ _ _ _ len rfl rfl rfl rfl (by rw [hz2]; omega) (by unfold maxLen; omega) (Nat.le_refl _) ?_)
  intro w1 hown hgr
  have hrow : Row w1 w.heap.size 0 (List.replicate len 0) := made_row hown
  have hbel : Below w.heap.size w w1 := (Below.refl _ _).grown hgr (Nat.le_refl _) (by intro k hk; cases hk)
  clear hown hgr
  go_wp2
  go_loopw [4] (fun i wr => ∃ k : Nat, k ≤ len ∧ i = .int .i64 k ∧ Row wr w.heap.size 0 (L.take k ++ List.replicate (len - k) 0) ∧ Below w.heap.size w wr) (fun i _ => len - (intOf i).toNat)
  case atStart => exact ⟨0, Nat.zero_le _, rfl, by simpa using hrow, hbel⟩
  case round =>
    obtain ⟨k, hk, rfl, hr, hb⟩ := hrel
    by_cases hlt : k < len
    · have hcx : wr.cell? (a.add k) = some (.int .u8 ((L.getD k 0 : Nat) : Int)) := by
        have h0 := HC.out k hlt
        rw [hb.cell (World.block_lt_of_cell? w _ h0)]; exact h0
      obtain ⟨x, hx⟩ : ∃ x, L.getD k 0 = x := ⟨_, rfl⟩
      rw [hx] at hcx
      obtain ⟨y, hy⟩ : ∃ y, (L.take k ++ List.replicate (len - k) 0).getD k 0 = y := ⟨_, rfl⟩
      have hlen2 : (L.take k ++ List.replicate (len - k) 0).length = len := by have := HL.out; simp; omega
      have hcy := hr.at k (by omega)
      have hfy := hr.free k (by omega)
      rw [hy, Nat.zero_add] at hcy
      rw [Nat.zero_add] at hfy
      have hset := hr.set k x (by omega)
      rw [clone_step L len k x HL.out hlt hx, Nat.zero_add] at hset
      have HR : Hid (Row (wr.setCell ⟨w.heap.size, k, none⟩ (.int .u8 (x : Int))) w.heap.size 0 (L.take (k + 1) ++ List.replicate (len - (k + 1)) 0)) := hset
      have HB : Hid (Below w.heap.size w (wr.setCell ⟨w.heap.size, k, none⟩ (.int .u8 (x : Int)))) := hb.setCell (Nat.le_refl _) _
      clear hr hb hset hx hy hlen2
      go_wp2
      go_roundw
      case rel => exact ⟨k + 1, by omega, by go_num, HR.out, HB.out⟩
      case measure => simp [intOf]; omega
    · have hkl : k = len := by omega
      subst hkl
      have hr' : Row wr w.heap.size 0 L := by have := HL.out; simpa [List.take_of_length_le (Nat.le_of_eq this)] using hr
      clear hr
      go_wp2
      go_ret
      exact ⟨rfl, hr', hb⟩
end Go.Proofs.Qxb6001367a
