import Derived.WalkKit
import Derived.Lib.SliceRun
import Derived.Deep.Draws
namespace Go.Proofs.Qxb6002681a
open Go.RowKit

/-- the cells from 'off' on of block g hold the bytes l, and none of them is frozen -/
def Row (w : World) (g off : Nat) (l : List UInt8) : Prop :=
  ∀ j, j < l.length → w.cell? ⟨g, off + j, none⟩ = some (.int .u8 ((l.getD j 0).toNat : Int)) ∧ w.frozen? ⟨g, off + j, none⟩ = false

theorem Row.nil (w : World) (g off : Nat) : Row w g off [] := fun j h => by simp at h
theorem Row.drewN {w : World} {g off : Nat} {l : List UInt8} (h : Row w g off l) (n : Nat) : Row (w.drewN n) g off l := h
theorem Row.at {w : World} {g off : Nat} {l : List UInt8} (h : Row w g off l) (j : Nat) (hj : j < l.length) : w.cell? ⟨g, off + j, none⟩ = some (.int .u8 ((l.getD j 0).toNat : Int)) := (h j hj).1
theorem Row.free {w : World} {g off : Nat} {l : List UInt8} (h : Row w g off l) (j : Nat) (hj : j < l.length) : w.frozen? ⟨g, off + j, none⟩ = false := (h j hj).2
theorem Row.block_lt {w : World} {g off : Nat} {l : List UInt8} (h : Row w g off l) (hl : 0 < l.length) : g < w.heap.size := by
  exact World.block_lt_of_cell? w ⟨g, off + 0, none⟩ (h 0 hl).1

theorem Row.set {w : World} {g off : Nat} {l : List UInt8} (h : Row w g off l) (j : Nat) (x : UInt8) (hj : j < l.length) :
    Row (w.setCell ⟨g, off + j, none⟩ (.int .u8 (x.toNat : Int))) g off (l.set j x) := by
  intro k hk
  have hk' : k < l.length := by simpa using hk
  refine ⟨?_, by rw [World.frozen?_setCell]; exact (h k hk').2⟩
  by_cases e : k = j
  · subst e
    rw [World.cell?_setCell_same (h := (h k hk').1)]
    simp [hk']
  · rw [World.cell?_setCell_other (h := show (⟨g, off + j, none⟩ : Addr) ≠ ⟨g, off + k, none⟩ by intro h; injection h with _ h; omega), (h k hk').1]
    simp [Ne.symm e]
theorem Row.setOther {w : World} {g off : Nat} {l : List UInt8} (h : Row w g off l) {a : Addr} (v : Value) (hne : a.block ≠ g) : Row (w.setCell a v) g off l := by
  intro k hk
  refine ⟨?_, by rw [World.frozen?_setCell]; exact (h k hk).2⟩
  rw [World.cell?_setCell_other (h := show a ≠ (⟨g, off + k, none⟩ : Addr) by intro e; apply hne; rw [e]), (h k hk).1]
theorem Row.below {B : Nat} {w w' : World} {g off : Nat} {l : List UInt8} (h : Row w g off l) (hb : Below B w w') (hg : g < B) : Row w' g off l := by
  intro k hk
  rw [hb.cell (p := ⟨g, off + k, none⟩) hg, hb.frozen (p := ⟨g, off + k, none⟩) hg]
  exact h k hk
theorem Row.grown {w w' : World} {row : Option Nat} {g off : Nat} {l : List UInt8} (h : Row w g off l) (hgr : w.grownBy w' row) (hne : some g ≠ row) : Row w' g off l := by
  intro k hk
  have hb := hgr.block g (Row.block_lt h (by omega)) hne
  rw [World.cell?_of_block (w := w) (a := ⟨g, off + k, none⟩) hb, World.frozen?_of_block (w := w) (a := ⟨g, off + k, none⟩) hb]
  exact h k hk
theorem Row.alloc {w : World} {g off : Nat} {l : List UInt8} (h : Row w g off l) (o : Obj) : Row (w.alloc o) g off l :=
  h.grown (World.grownBy_alloc w o none) (by simp)
theorem Row.drop {w : World} {g off : Nat} {l : List UInt8} (h : Row w g off l) (k : Nat) : Row w g (off + k) (l.drop k) := by
  intro j hj
  have hj' : k + j < l.length := by simp at hj; omega
  have := h (k + j) hj'
  rw [show off + (k + j) = off + k + j from by omega] at this
  simpa [List.getD, List.getElem?_drop] using this
theorem Row.owned {w : World} {base : Nat} {g n cap : Nat} {l : List UInt8} (h : w.ownsRow base 5 1 (.slice (some ⟨g, 0, none⟩) n cap) n (l.map (fun (x : UInt8) => Value.int .u8 (x.toNat : Int)))) : Row w g 0 l := by
  intro j hj
  have hn : l.length = n * 1 := by simpa using h.1
  refine ⟨?_, by rw [Nat.zero_add]; exact h.frozenAt j⟩
  rw [Nat.zero_add, h.cellAt j (by omega)]
  simp [hj]
theorem below_drewN {B : Nat} {a w : World} (h : Below B a w) (n : Nat) : Below B a (w.drewN n) := ⟨h.os, h.tape, h.output, h.size, h.block⟩

theorem getD_take_lt (l : List UInt8) (k j : Nat) (h : j < k) : (l.take k).getD j 0 = l.getD j 0 := by
  simp [List.getD, h]
theorem ret_bool {a b : Bool} (h : a = b) : Ending.returned (.bool a) = .returned (.bool b) := by rw [h]
end Go.Proofs.Qxb6002681a
