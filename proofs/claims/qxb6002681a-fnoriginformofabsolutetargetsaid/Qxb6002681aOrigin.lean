import Derived.Test.Qxb6002681aHead
namespace Go.Proofs.Qxb6002681a
open Go.RowKit

theorem css_const (w : World) : Cells (w.alloc (.cells #[.int .u8 58, .int .u8 47, .int .u8 47] 5 (3, 4))) (some ⟨w.heap.size, 0, none⟩) [58, 47, 47] := by
  intro _
  refine ⟨_, 0, rfl, fun i hi => ?_⟩
  rw [Nat.zero_add, World.cell?_alloc_mark]
  match i, hi with
  | 0, _ => rfl
  | 1, _ => rfl
  | 2, _ => rfl

/-- the target is absolute: the first '://' stands at i, behind a scheme without a slash -/
def Abs (T : List UInt8) (i : Nat) : Prop := 0 < i ∧ Occ T [58, 47, 47] i ∧ (∀ j, j < i → ¬ Occ T [58, 47, 47] j) ∧ ∀ j, j < i → T.getD j 0 ≠ 47

theorem abs_index {T : List UInt8} {i : Nat} (h : Abs T i) : Lib.index T [58, 47, 47] = i := by
  have hl : i ≤ T.length := by have := h.2.1.1; omega
  refine Lib.index_first hl ((occ_iff T _ i hl).2 h.2.1) (fun j hj => ?_)
  cases hb : Lib.occAt T [58, 47, 47] j with
  | false => rfl
  | true => exact absurd ((occ_iff T _ j (by omega)).1 hb) (h.2.2.1 j hj)
theorem byte_none {L : List UInt8} {c : UInt8} (h : ∀ j, j < L.length → L.getD j 0 ≠ c) : Lib.indexByte L c = -1 := by
  rcases idx_cases L 0 L.length c rfl (Nat.zero_le _) with ⟨h1, _⟩ | ⟨t, _, h2, h3, _⟩
  · rw [List.drop_zero] at h1; exact h1
  · rw [Nat.zero_add] at h2 h3
    exact absurd h3 (h t h2)
theorem abs_noslash {T : List UInt8} {i : Nat} (h : Abs T i) : Lib.indexByte (T.take i) 47 = -1 := by
  apply byte_none
  intro j hj
  have hj' : j < i := by simp at hj; omega
  rw [getD_take_lt T i j hj']
  exact h.2.2.2 j hj'

set_option maxHeartbeats 1000000 in
theorem of_abs_some (g n i t r : Nat) (T : List UInt8) (m : Int) (w : World) (hT : T.length = n) (hn : n ≤ 2097152) (hg : g < w.heap.size) (hr : Row w g 0 T) (hm : w.cell? ⟨0, 0, none⟩ = some (.int .i64 m))
    (ha : Abs T i) (hk : T.getD (i + 3 + t) 0 = 47) (hno : ∀ j, i + 3 ≤ j → j < i + 3 + t → T.getD j 0 ≠ 47) (hkr : i + 3 + t + r = n) (hr0 : 0 < r) :
    Calls Try.prog 13 #[.slice (some ⟨g, 0, none⟩) n n] w fun e w' => e = .returned (.slice (some ⟨g, i + 3 + t, none⟩) r r) ∧ Below w.heap.size w w' := by
  have kc := fun (w : World) (C : Array Value) (n c : Nat) => Lib.run_convert_bytes_const (P := Try.prog) w 22 5 C n c Try.underlying22 Try.underlying5
  have h0 : 0 < w.heap.size := World.block_lt_of_cell? w ⟨0, 0, none⟩ hm
  have hi0 : 0 < i := ha.1
  have HIX : Hid (Lib.index T [58, 47, 47] = i) := abs_index ha
  have HNS : Hid (Lib.indexByte (T.take i) 47 = -1) := abs_noslash ha
  have HTL : Hid ((T.take i).length = i) := by rw [Hid]; simp; omega
  have HDL : Hid ((T.drop (i + 3)).length = n - (i + 3)) := by rw [Hid]; simp; omega
  have HFS : Hid (Lib.indexByte (T.drop (i + 3)) 47 = (t : Int)) := by
    rcases idx_cases T (i + 3) n 47 hT (by omega) with ⟨_, h1⟩ | ⟨t', h1, h2, h3, h4⟩
    · exact absurd hk (h1 _ (by omega) (by omega))
    · rcases Nat.lt_trichotomy t t' with h | h | h
      · exact absurd hk (h4 _ (by omega) (by omega))
      · rw [h]; exact h1
      · exact absurd h3 (hno _ (by omega) (by omega))
  have HT := show Hid _ from hT
  have HR : Hid (Row w g 0 T) := hr
  have HM := show Hid _ from hm
  have HK := show Hid _ from hk
  clear hT hr hm hk hno ha
  go_enter Try.func13, Try.ntmps13
  go_wp2_with fail
  have hal : Below w.heap.size w (w.alloc (.cells #[.int .u8 58, .int .u8 47, .int .u8 47] 5 (3, 4))) := (Below.refl _ _).alloc (Nat.le_refl _) _
  refine (ix_at g 0 n n _ T [58, 47, 47] 3 (i : Int) m _ HT.out rfl (Nat.le_refl _) (by omega) (by omega) (by exact (HR.out.below hal hg).cells) (css_const w) (by rw [hal.cell (p := ⟨0, 0, none⟩) h0]; exact HM.out) HIX.out).mono ?_
  rintro e w1 ⟨rfl, q, hw1⟩
  have hb1 : Below w.heap.size w w1 := by rw [hw1]; exact below_drewN hal q
  have HR1 : Hid (Row w1 g 0 T) := HR.out.below hb1 hg
  clear hw1 hal
  go_wp2_with fail
  refine (idx_at g 0 i _ 47 (T.take i) (-1) _ HTL.out (fun _ j hj => (HR1.out.take i).at j hj) HNS.out).mono ?_
  rintro e w' ⟨rfl, rfl⟩
  have e3 : ((i : Int) + 3).toNat = i + 3 := by omega
  have hne3 : ¬ n = i + 3 := by omega
  go_wp2_with fail
  refine (idx_at g (i + 3) (n - (i + 3)) _ 47 (T.drop (i + 3)) (t : Int) _ HDL.out (fun _ j hj => (HR1.out.drop' (i + 3)).at j hj) HFS.out).mono ?_
  rintro e w' ⟨rfl, rfl⟩
  have hck := HR1.out.at (i + 3 + t) (by have := HT.out; omega)
  rw [HK.out, Nat.zero_add] at hck
  have hnr : n - (i + 3 + t) = r := by omega
  have hrz : ((r : Int) == 0) = false := beq_eq_false_iff_ne.2 (by omega)
  go_wp2
  go_ret
  exact ⟨by rw [← hnr]; rfl, hb1⟩

set_option maxHeartbeats 1000000 in
theorem of_abs_none (g n i : Nat) (T : List UInt8) (m : Int) (w : World) (hT : T.length = n) (hn : n ≤ 2097152) (hg : g < w.heap.size) (hr : Row w g 0 T) (hm : w.cell? ⟨0, 0, none⟩ = some (.int .i64 m))
    (ha : Abs T i) (hno : ∀ j, i + 3 ≤ j → j < n → T.getD j 0 ≠ 47) :
    Calls Try.prog 13 #[.slice (some ⟨g, 0, none⟩) n n] w fun e w' => e = .returned (.slice none 0 0) ∧ Below w.heap.size w w' := by
  have kc := fun (w : World) (C : Array Value) (n c : Nat) => Lib.run_convert_bytes_const (P := Try.prog) w 22 5 C n c Try.underlying22 Try.underlying5
  have h0 : 0 < w.heap.size := World.block_lt_of_cell? w ⟨0, 0, none⟩ hm
  have hi0 : 0 < i := ha.1
  have hi3 : i + 3 ≤ n := by have h1 : i + 3 ≤ T.length := ha.2.1.1; omega
  have HIX : Hid (Lib.index T [58, 47, 47] = i) := abs_index ha
  have HNS : Hid (Lib.indexByte (T.take i) 47 = -1) := abs_noslash ha
  have HTL : Hid ((T.take i).length = i) := by rw [Hid]; simp; omega
  have HDL : Hid ((T.drop (i + 3)).length = n - (i + 3)) := by rw [Hid]; simp; omega
  have HFS : Hid (Lib.indexByte (T.drop (i + 3)) 47 = -1) := by
    rcases idx_cases T (i + 3) n 47 hT (by omega) with ⟨h1, _⟩ | ⟨t', h1, h2, h3, h4⟩
    · exact h1
    · exact absurd h3 (hno _ (by omega) (by omega))
  have HT := show Hid _ from hT
  have HR : Hid (Row w g 0 T) := hr
  have HM := show Hid _ from hm
  clear hT hr hm hno ha
  by_cases hn3 : i + 3 = n
  · have hni : (i : Int) + 3 = (n : Int) := by omega
    go_enter Try.func13, Try.ntmps13
    go_wp2_with fail
    have hal : Below w.heap.size w (w.alloc (.cells #[.int .u8 58, .int .u8 47, .int .u8 47] 5 (3, 4))) := (Below.refl _ _).alloc (Nat.le_refl _) _
    refine (ix_at g 0 n n _ T [58, 47, 47] 3 (i : Int) m _ HT.out rfl (Nat.le_refl _) (by omega) (by omega) (by exact (HR.out.below hal hg).cells) (css_const w) (by rw [hal.cell (p := ⟨0, 0, none⟩) h0]; exact HM.out) HIX.out).mono ?_
    rintro e w1 ⟨rfl, q, hw1⟩
    have hb1 : Below w.heap.size w w1 := by rw [hw1]; exact below_drewN hal q
    have HR1 : Hid (Row w1 g 0 T) := HR.out.below hb1 hg
    clear hw1 hal
    go_wp2_with fail
    refine (idx_at g 0 i _ 47 (T.take i) (-1) _ HTL.out (fun _ j hj => (HR1.out.take i).at j hj) HNS.out).mono ?_
    rintro e w' ⟨rfl, rfl⟩
    have e3 : ((i : Int) + 3).toNat = i + 3 := by omega
    go_wp2_with fail
    refine (idx_at g 0 0 _ 47 [] (-1) _ rfl (fun h => absurd rfl h) rfl).mono ?_
    rintro e w' ⟨rfl, rfl⟩
    go_wp2
    go_ret
    exact ⟨rfl, hb1⟩
  · have hne3 : ¬ n = i + 3 := fun h => hn3 h.symm
    go_enter Try.func13, Try.ntmps13
    go_wp2_with fail
    have hal : Below w.heap.size w (w.alloc (.cells #[.int .u8 58, .int .u8 47, .int .u8 47] 5 (3, 4))) := (Below.refl _ _).alloc (Nat.le_refl _) _
    refine (ix_at g 0 n n _ T [58, 47, 47] 3 (i : Int) m _ HT.out rfl (Nat.le_refl _) (by omega) (by omega) (by exact (HR.out.below hal hg).cells) (css_const w) (by rw [hal.cell (p := ⟨0, 0, none⟩) h0]; exact HM.out) HIX.out).mono ?_
    rintro e w1 ⟨rfl, q, hw1⟩
    have hb1 : Below w.heap.size w w1 := by rw [hw1]; exact below_drewN hal q
    have HR1 : Hid (Row w1 g 0 T) := HR.out.below hb1 hg
    clear hw1 hal
    go_wp2_with fail
    refine (idx_at g 0 i _ 47 (T.take i) (-1) _ HTL.out (fun _ j hj => (HR1.out.take i).at j hj) HNS.out).mono ?_
    rintro e w' ⟨rfl, rfl⟩
    have e3 : ((i : Int) + 3).toNat = i + 3 := by omega
    go_wp2_with fail
    refine (idx_at g (i + 3) (n - (i + 3)) _ 47 (T.drop (i + 3)) (-1) _ HDL.out (fun _ j hj => (HR1.out.drop' (i + 3)).at j hj) HFS.out).mono ?_
    rintro e w' ⟨rfl, rfl⟩
    go_wp2
    go_ret
    exact ⟨rfl, hb1⟩

/-- the target is not absolute -/
def NotAbs (T : List UInt8) : Prop := (∃ v : Int, v ≤ 0 ∧ Lib.index T [58, 47, 47] = v) ∨ ∃ i j : Nat, 0 < i ∧ i ≤ T.length ∧ Lib.index T [58, 47, 47] = (i : Int) ∧ Lib.indexByte (T.take i) 47 = (j : Int)
theorem abs_or (T : List UInt8) : (∃ i, Abs T i) ∨ NotAbs T := by
  rcases index_cases T [58, 47, 47] with ⟨h1, _⟩ | ⟨t, h1, h2, h3⟩
  · exact Or.inr (Or.inl ⟨-1, by omega, h1⟩)
  · by_cases ht : t = 0
    · exact Or.inr (Or.inl ⟨t, by omega, h1⟩)
    · have htl : t ≤ T.length := by have h := h2.1; omega
      rcases idx_cases (T.take t) 0 (T.take t).length 47 rfl (Nat.zero_le _) with ⟨_, h5⟩ | ⟨j, h4, _⟩
      · refine Or.inl ⟨t, by omega, h2, h3, fun j hj => ?_⟩
        have := h5 j (Nat.zero_le _) (by simp; omega)
        rw [getD_take_lt T t j hj] at this
        exact this
      · rw [List.drop_zero] at h4
        exact Or.inr (Or.inr ⟨t, j, by omega, htl, h1, h4⟩)

set_option maxHeartbeats 1000000 in
theorem of_rel_some (g n : Nat) (T : List UInt8) (m : Int) (w : World) (hT : T.length = n) (hn : n ≤ 2097152) (hg : g < w.heap.size) (hr : Row w g 0 T) (hm : w.cell? ⟨0, 0, none⟩ = some (.int .i64 m)) (hna : NotAbs T) (hn0 : 0 < n) (h47 : T.getD 0 0 = 47) :
    Calls Try.prog 13 #[.slice (some ⟨g, 0, none⟩) n n] w fun e w' => e = .returned (.slice (some ⟨g, 0, none⟩) n n) ∧ Below w.heap.size w w' := by
  have kc := fun (w : World) (C : Array Value) (n c : Nat) => Lib.run_convert_bytes_const (P := Try.prog) w 22 5 C n c Try.underlying22 Try.underlying5
  have h0 : 0 < w.heap.size := World.block_lt_of_cell? w ⟨0, 0, none⟩ hm
  have HT := show Hid _ from hT
  have HR : Hid (Row w g 0 T) := hr
  have HM := show Hid _ from hm
  have H47 := show Hid _ from h47
  have hnz : ((n : Int) == 0) = false := beq_eq_false_iff_ne.2 (by omega)
  clear hr hm h47
  rcases hna with ⟨v, hv, hix⟩ | ⟨i, j, hi0, hil, hix, hj⟩
  · have HIX := show Hid _ from hix
    clear hT hix
    go_enter Try.func13, Try.ntmps13
    go_wp2_with fail
    have hal : Below w.heap.size w (w.alloc (.cells #[.int .u8 58, .int .u8 47, .int .u8 47] 5 (3, 4))) := (Below.refl _ _).alloc (Nat.le_refl _) _
    refine (ix_at g 0 n n _ T [58, 47, 47] 3 v m _ HT.out rfl (Nat.le_refl _) (by omega) (by omega) (by exact (HR.out.below hal hg).cells) (css_const w) (by rw [hal.cell (p := ⟨0, 0, none⟩) h0]; exact HM.out) HIX.out).mono ?_
    rintro e w1 ⟨rfl, q, hw1⟩
    have hb1 : Below w.heap.size w w1 := by rw [hw1]; exact below_drewN hal q
    have HR1 : Hid (Row w1 g 0 T) := HR.out.below hb1 hg
    clear hw1 hal
    have hc0 := HR1.out.at 0 (by have := HT.out; omega)
    rw [H47.out, Nat.add_zero] at hc0
    go_wp2
    go_ret
    exact ⟨rfl, hb1⟩
  · have HIX := show Hid _ from hix
    have HNS := show Hid _ from hj
    have hin : i ≤ n := by omega
    have HTL : Hid ((T.take i).length = i) := by rw [Hid]; simp; omega
    clear hT hix hj hil
    go_enter Try.func13, Try.ntmps13
    go_wp2_with fail
    have hal : Below w.heap.size w (w.alloc (.cells #[.int .u8 58, .int .u8 47, .int .u8 47] 5 (3, 4))) := (Below.refl _ _).alloc (Nat.le_refl _) _
    refine (ix_at g 0 n n _ T [58, 47, 47] 3 (i : Int) m _ HT.out rfl (Nat.le_refl _) (by omega) (by omega) (by exact (HR.out.below hal hg).cells) (css_const w) (by rw [hal.cell (p := ⟨0, 0, none⟩) h0]; exact HM.out) HIX.out).mono ?_
    rintro e w1 ⟨rfl, q, hw1⟩
    have hb1 : Below w.heap.size w w1 := by rw [hw1]; exact below_drewN hal q
    have HR1 : Hid (Row w1 g 0 T) := HR.out.below hb1 hg
    clear hw1 hal
    have hc0 := HR1.out.at 0 (by have := HT.out; omega)
    rw [H47.out, Nat.add_zero] at hc0
    go_wp2_with fail
    refine (idx_at g 0 i _ 47 (T.take i) (j : Int) _ HTL.out (fun _ j hj => (HR1.out.take i).at j hj) HNS.out).mono ?_
    rintro e w' ⟨rfl, rfl⟩
    go_wp2
    go_ret
    exact ⟨rfl, hb1⟩

set_option maxHeartbeats 1000000 in
theorem of_rel_none (g n : Nat) (T : List UInt8) (m : Int) (w : World) (hT : T.length = n) (hn : n ≤ 2097152) (hg : g < w.heap.size) (hr : Row w g 0 T) (hm : w.cell? ⟨0, 0, none⟩ = some (.int .i64 m)) (hna : NotAbs T) (hz : n = 0 ∨ (0 < n ∧ T.getD 0 0 ≠ 47)) :
    Calls Try.prog 13 #[.slice (some ⟨g, 0, none⟩) n n] w fun e w' => e = .returned (.slice none 0 0) ∧ Below w.heap.size w w' := by
  have kc := fun (w : World) (C : Array Value) (n c : Nat) => Lib.run_convert_bytes_const (P := Try.prog) w 22 5 C n c Try.underlying22 Try.underlying5
  have h0 : 0 < w.heap.size := World.block_lt_of_cell? w ⟨0, 0, none⟩ hm
  have HT := show Hid _ from hT
  have HR : Hid (Row w g 0 T) := hr
  have HM := show Hid _ from hm
  clear hr hm
  rcases hz with hz | ⟨hn0, h47⟩
  · subst hz
    obtain rfl : T = [] := List.length_eq_zero_iff.1 hT
    have HIX : Hid (Lib.index [] [58, 47, 47] = -1) := rfl
    clear hna hT
    go_enter Try.func13, Try.ntmps13
    go_wp2_with fail
    have hal : Below w.heap.size w (w.alloc (.cells #[.int .u8 58, .int .u8 47, .int .u8 47] 5 (3, 4))) := (Below.refl _ _).alloc (Nat.le_refl _) _
    refine (ix_at g 0 0 0 _ [] [58, 47, 47] 3 (-1) m _ HT.out rfl (Nat.le_refl _) (by omega) (by omega) (by exact (HR.out.below hal hg).cells) (css_const w) (by rw [hal.cell (p := ⟨0, 0, none⟩) h0]; exact HM.out) HIX.out).mono ?_
    rintro e w1 ⟨rfl, q, hw1⟩
    have hb1 : Below w.heap.size w w1 := by rw [hw1]; exact below_drewN hal q
    have HR1 : Hid (Row w1 g 0 []) := HR.out.below hb1 hg
    clear hw1 hal
    go_wp2
    go_ret
    exact ⟨rfl, hb1⟩
  · have hnz : ((n : Int) == 0) = false := beq_eq_false_iff_ne.2 (by omega)
    obtain ⟨y, hy⟩ : ∃ y, ((T.getD 0 0).toNat : Int) = y := ⟨_, rfl⟩
    have hy47 : (y != 47) = true := by
      rw [bne_iff_ne, ← hy]
      intro e
      exact h47 (byte_eq (n := 47) (by omega) e)
    have HY := show Hid _ from hy
    clear hy h47
    rcases hna with ⟨v, hv, hix⟩ | ⟨i, j, hi0, hil, hix, hj⟩
    · have HIX := show Hid _ from hix
      clear hT hix
      go_enter Try.func13, Try.ntmps13
      go_wp2_with fail
      have hal : Below w.heap.size w (w.alloc (.cells #[.int .u8 58, .int .u8 47, .int .u8 47] 5 (3, 4))) := (Below.refl _ _).alloc (Nat.le_refl _) _
      refine (ix_at g 0 n n _ T [58, 47, 47] 3 v m _ HT.out rfl (Nat.le_refl _) (by omega) (by omega) (by exact (HR.out.below hal hg).cells) (css_const w) (by rw [hal.cell (p := ⟨0, 0, none⟩) h0]; exact HM.out) HIX.out).mono ?_
      rintro e w1 ⟨rfl, q, hw1⟩
      have hb1 : Below w.heap.size w w1 := by rw [hw1]; exact below_drewN hal q
      have HR1 : Hid (Row w1 g 0 T) := HR.out.below hb1 hg
      clear hw1 hal
      have hc0 := HR1.out.at 0 (by have := HT.out; omega)
      rw [HY.out, Nat.add_zero] at hc0
      go_wp2
      go_ret
      exact ⟨rfl, hb1⟩
    · have HIX := show Hid _ from hix
      have HNS := show Hid _ from hj
      have hin : i ≤ n := by omega
      have HTL : Hid ((T.take i).length = i) := by rw [Hid]; simp; omega
      clear hT hix hj hil
      go_enter Try.func13, Try.ntmps13
      go_wp2_with fail
      have hal : Below w.heap.size w (w.alloc (.cells #[.int .u8 58, .int .u8 47, .int .u8 47] 5 (3, 4))) := (Below.refl _ _).alloc (Nat.le_refl _) _
      refine (ix_at g 0 n n _ T [58, 47, 47] 3 (i : Int) m _ HT.out rfl (Nat.le_refl _) (by omega) (by omega) (by exact (HR.out.below hal hg).cells) (css_const w) (by rw [hal.cell (p := ⟨0, 0, none⟩) h0]; exact HM.out) HIX.out).mono ?_
      rintro e w1 ⟨rfl, q, hw1⟩
      have hb1 : Below w.heap.size w w1 := by rw [hw1]; exact below_drewN hal q
      have HR1 : Hid (Row w1 g 0 T) := HR.out.below hb1 hg
      clear hw1 hal
      have hc0 := HR1.out.at 0 (by have := HT.out; omega)
      rw [HY.out, Nat.add_zero] at hc0
      go_wp2_with fail
      refine (idx_at g 0 i _ 47 (T.take i) (j : Int) _ HTL.out (fun _ j hj => (HR1.out.take i).at j hj) HNS.out).mono ?_
      rintro e w' ⟨rfl, rfl⟩
      go_wp2
      go_ret
      exact ⟨rfl, hb1⟩
end Go.Proofs.Qxb6002681a
