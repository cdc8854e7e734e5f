import Derived.Test.Qxb6002681aCat
import Derived.Test.Qxb6002681aCut
import Derived.Test.Qxb6002681aSplits
namespace Go.Proofs.Qxb6002681a
open Go.RowKit

theorem q22n (w : World) (a : Option Addr) (n c n' c' : Nat) : (binOp .neq 22 (.slice a n c) (.slice none n' c')).run Try.prog w = .ok (.bool (!a.isNone)) w := run_neq_slice_nil_any w _ _ a n c n' c' Try.underlying22

theorem equal_c (a1 a2 : Option Addr) (c1 c2 n : Nat) (L : List UInt8) (w : World) (hL : L.length = n) (hlen : n ≤ 1048576) (h1 : Cells w a1 L) (h2 : Cells w a2 L) :
    Calls Try.prog 20 #[.slice a1 n c1, .slice a2 n c2] w fun e w' => e = .returned (.bool true) ∧ ∃ q, w' = w.drewN q := by
  by_cases hz : n = 0
  · exact equal_yes a1 a2 c1 c2 n L w hL hlen (fun h => absurd hz h) (fun h => absurd hz h)
  · obtain ⟨g1, o1, rfl, r1⟩ := h1 (by omega)
    obtain ⟨g2, o2, rfl, r2⟩ := h2 (by omega)
    have HL := show Hid _ from hL
    have R1 := show Hid _ from r1
    have R2 := show Hid _ from r2
    clear hL h1 h2 r1 r2
    have hne : ((n : Int) != (n : Int)) = false := by simp
    go_enter Try.func20, Try.ntmps20
    go_wp2
    go_loopw [5] (fun i wr => ∃ k q : Nat, k ≤ n ∧ i = .int .i64 k ∧ wr = w.drewN q) (fun i _ => n - (intOf i).toNat)
    case atStart => exact ⟨0, 0, Nat.zero_le _, rfl, rfl⟩
    case round =>
      obtain ⟨k, q, hk, rfl, rfl⟩ := hrel
      by_cases hlt : k < n
      · obtain ⟨x, hx⟩ : ∃ x, ((L.getD k 0).toNat : Int) = x := ⟨_, rfl⟩
        have c1 := R1.out k (by have := HL.out; omega)
        have c2 := R2.out k (by have := HL.out; omega)
        rw [hx] at c1 c2
        have hlt' : (k : Int) < (n : Int) := by omega
        clear hx
        go_wp2
        go_quiet (fail)
        go_wp2
        go_roundw
        case rel => exact ⟨k + 1, _, by omega, by go_num, rfl⟩
        case measure => simp [intOf]; omega
      · go_wp2
        go_ret
        exact ⟨rfl, q, rfl⟩

/-- nil has no length and no capacity -/
def NilOk (a : Option Addr) (n c : Nat) : Prop := a = none → n = 0 ∧ c = 0
theorem NilOk.some (x : Addr) (n c : Nat) : NilOk (some x) n c := fun h => by cases h

theorem clone_any (a : Option Addr) (n c : Nat) (L : List UInt8) (w : World) (hL : L.length = n) (hn : n ≤ 1048576) (hz : NilOk a n c) (hc : ∀ x, a = some x → ∀ i, i < n → w.cell? (x.add i) = some (.int .u8 ((L.getD i 0).toNat : Int))) :
    Calls Try.prog 12 #[.slice a n c] w fun e w' => ∃ a' c', e = .returned (.slice a' n c') ∧ Cells w' a' L ∧ NilOk a' n c' ∧ (a = none ↔ a' = none) ∧ Below w.heap.size w w' := by
  cases a with
  | none =>
    obtain ⟨rfl, rfl⟩ := hz rfl
    refine (clone_nil w).mono ?_
    rintro e w' ⟨rfl, rfl⟩
    exact ⟨none, 0, rfl, fun h => absurd hL h, fun _ => ⟨rfl, rfl⟩, Iff.rfl, Below.refl _ _⟩
  | some x =>
    refine (clone_some x n c L w hL hn (hc x rfl)).mono ?_
    rintro e w' ⟨rfl, hr, _, hb⟩
    exact ⟨_, n, rfl, hr.cells, NilOk.some _ _ _, ⟨(fun h => by cases h), (fun h => by cases h)⟩, hb⟩

theorem crlf_const (w : World) : Cells (w.alloc (.cells #[.int .u8 13, .int .u8 10] 5 (2, 3))) (some ⟨w.heap.size, 0, none⟩) [13, 10] := by
  intro _
  refine ⟨_, 0, rfl, fun i hi => ?_⟩
  rw [Nat.zero_add, World.cell?_alloc_mark]
  match i, hi with
  | 0, _ => rfl
  | 1, _ => rfl

theorem cat_first (L R : List UInt8) (hno : ∀ i, ¬ At L i) : At (L ++ [13, 10] ++ R) L.length ∧ ∀ i, i < L.length → ¬ At (L ++ [13, 10] ++ R) i := by
  have g : ∀ i, i < L.length → (L ++ [13, 10] ++ R).getD i 0 = L.getD i 0 := by
    intro i hi
    rw [List.append_assoc, List.getD, List.getElem?_append_left hi]; rfl
  have g0 : (L ++ [13, 10] ++ R).getD L.length 0 = 13 := by
    rw [List.append_assoc, List.getD, List.getElem?_append_right (Nat.le_refl _), Nat.sub_self]; rfl
  have g1 : (L ++ [13, 10] ++ R).getD (L.length + 1) 0 = 10 := by
    rw [List.append_assoc, List.getD, List.getElem?_append_right (by omega), show L.length + 1 - L.length = 1 from by omega]; rfl
  refine ⟨⟨by simp, g0, g1⟩, ?_⟩
  rintro i hi ⟨h1, h2, h3⟩
  by_cases e : i + 1 = L.length
  · rw [e, g0] at h3; exact absurd h3 (by decide)
  · rw [g i hi] at h2
    rw [g (i + 1) (by omega)] at h3
    exact hno i ⟨by omega, h2, h3⟩

/-- what every walk is told of a slice that came in -/
def View (w : World) (a : Option Addr) (n c : Nat) (L : List UInt8) : Prop :=
  L.length = n ∧ NilOk a n c ∧ (∀ x, a = some x → ∀ i, i < n → w.cell? (x.add i) = some (.int .u8 ((L.getD i 0).toNat : Int))) ∧ Cells w a L ∧ n ≤ maxLen
theorem view_nil (w : World) : View w none 0 0 [] := ⟨rfl, fun _ => ⟨rfl, rfl⟩, (fun x h => by cases h), (fun h => absurd rfl h), Nat.zero_le _⟩
theorem view_some (w : World) (x : Addr) (zs : List Int) (len cap : Nat) (hlc : len ≤ cap) (hcm : cap ≤ maxLen) (hzl : zs.length = cap) (hcell : ∀ i, i < zs.length → w.cell? (x.add i) = some (.int .u8 (zs.getD i 0))) (hwf : ∀ n ∈ zs, (Lit.int .u8 n).wf = true) : ∃ L, View w (some x) len cap L := by
  obtain ⟨L, hL, hc⟩ := nums w x zs len (by omega) hwf hcell
  refine ⟨L, hL, NilOk.some _ _ _, ?_, Cells.of_add (fun i hi => hc i (by omega)), Nat.le_trans hlc hcm⟩
  intro y hy i hi
  obtain rfl := Option.some.inj hy
  exact hc i hi
theorem add_below {w w1 : World} {b : Option Addr} {n : Nat} {R : List UInt8} (h : ∀ x, b = some x → ∀ i, i < n → w.cell? (x.add i) = some (.int .u8 ((R.getD i 0).toNat : Int))) (hb : Below w.heap.size w w1) :
    ∀ x, b = some x → ∀ i, i < n → w1.cell? (x.add i) = some (.int .u8 ((R.getD i 0).toNat : Int)) := by
  intro x hx i hi
  have h0 := h x hx i hi
  rw [hb.cell (World.block_lt_of_cell? w _ h0)]
  exact h0

namespace round
set_option maxHeartbeats 400000 in
theorem bytes_yes (a b : Option Addr) (n1 c1 n2 c2 : Nat) (w : World) (h : n1 + n2 ≤ 1048576) :
    Calls Try.prog 21 #[.slice a n1 c1, .slice b n2 c2] w fun e w' => e = .returned (.bool true) ∧ w = w' := by
  go_enter Try.func21, Try.ntmps21
  go_wp2
  go_ret
  exact ⟨rfl, rfl⟩

set_option maxHeartbeats 400000 in
theorem bytes_no (a b : Option Addr) (n1 c1 n2 c2 : Nat) (w : World) (ha : n1 ≤ maxLen) (hb : n2 ≤ maxLen) (h : ¬ n1 + n2 ≤ 1048576) :
    Calls Try.prog 21 #[.slice a n1 c1, .slice b n2 c2] w fun e w' => e = .returned (.bool false) ∧ w = w' := by
  unfold maxLen at ha hb
  rcases (show 1048576 < n1 ∨ (n1 ≤ 1048576 ∧ 1048576 < n2) ∨ (n1 ≤ 1048576 ∧ n2 ≤ 1048576 ∧ 1048576 < n1 + n2) from by omega) with h1 | ⟨h1, h2⟩ | ⟨h1, h2, h3⟩
  all_goals
    go_enter Try.func21, Try.ntmps21
    go_wp2
    go_ret
    exact ⟨rfl, rfl⟩

theorem walk_big (a b : Option Addr) (n1 c1 n2 c2 : Nat) (w : World) (ha : n1 ≤ maxLen) (hb : n2 ≤ maxLen) (h : ¬ n1 + n2 ≤ 1048576) :
    Calls Try.prog 6 #[.slice a n1 c1, .slice b n2 c2] w fun e w' => e = .returned (.bool true) ∧ Below w.heap.size w w' := by
  go_enter Try.func6, Try.ntmps6
  go_wp2_with (go_at_call 21; refine (bytes_no _ _ _ _ _ _ _ ha hb h).mono ?_; rintro e w' ⟨rfl, rfl⟩)
  go_ret
  exact ⟨rfl, Below.refl _ _⟩

set_option maxHeartbeats 1000000 in
theorem walk_has (a b : Option Addr) (n1 c1 n2 c2 : Nat) (L : List UInt8) (w : World) (h20 : n1 + n2 ≤ 1048576) (hL : L.length = n1) (hc : Cells w a L) (hex : ∃ i, At L i) :
    Calls Try.prog 6 #[.slice a n1 c1, .slice b n2 c2] w fun e w' => e = .returned (.bool true) ∧ Below w.heap.size w w' := by
  have HL := show Hid _ from hL
  have HC : Hid (Cells w a L) := hc
  have HX : Hid (∃ i, At L i) := hex
  clear hL hc hex
  go_enter Try.func6, Try.ntmps6
  go_wp2_with (first
    | (go_at_call 21; refine (bytes_yes _ _ _ _ _ _ _ h20).mono ?_; rintro e w' ⟨rfl, rfl⟩)
    | (go_at_call 22; refine (crlf_any _ _ _ L true _ HL.out (by omega) (by exact HC.out) ⟨fun _ => HX.out, fun _ => rfl⟩).mono ?_; rintro e w' ⟨rfl, rfl⟩))
  go_ret
  exact ⟨rfl, Below.refl _ _⟩

set_option maxHeartbeats 2000000 in
theorem walk_no (a b : Option Addr) (n1 c1 n2 c2 : Nat) (L R : List UInt8) (w : World) (h20 : n1 + n2 ≤ 1048576) (hL : L.length = n1) (hR : R.length = n2) (hz1 : NilOk a n1 c1) (hz2 : NilOk b n2 c2)
    (hc : ∀ x, a = some x → ∀ i, i < n1 → w.cell? (x.add i) = some (.int .u8 ((L.getD i 0).toNat : Int))) (hc2 : ∀ x, b = some x → ∀ i, i < n2 → w.cell? (x.add i) = some (.int .u8 ((R.getD i 0).toNat : Int)))
    (hca : Cells w a L) (hno : ∀ i, ¬ At L i) :
    Calls Try.prog 6 #[.slice a n1 c1, .slice b n2 c2] w fun e w' => e = .returned (.bool true) ∧ Below w.heap.size w w' := by
  have q := q22n
  have kc := fun (w : World) (C : Array Value) (n c : Nat) => Lib.run_convert_bytes_const (P := Try.prog) w 22 5 C n c Try.underlying22 Try.underlying5
  have HL := show Hid _ from hL
  have HR := show Hid _ from hR
  have HC := show Hid _ from hc
  have HC2 := show Hid _ from hc2
  have HCA : Hid (Cells w a L) := hca
  have HZ1 : Hid (NilOk a n1 c1) := hz1
  have HZ2 : Hid (NilOk b n2 c2) := hz2
  have HN : Hid (∀ i, ¬ At L i) := hno
  clear hL hR hc hc2 hca hz1 hz2 hno
  go_enter Try.func6, Try.ntmps6
  go_wp2_with (first
    | (go_at_call 21; refine (bytes_yes _ _ _ _ _ _ _ h20).mono ?_; rintro e w' ⟨rfl, rfl⟩)
    | (go_at_call 22; refine (crlf_any _ _ _ L false _ HL.out (by omega) (by exact HCA.out) ⟨(fun h => by cases h), fun ⟨i, h⟩ => absurd h (HN.out i)⟩).mono ?_; rintro e w' ⟨rfl, rfl⟩))
  refine (clone_any a n1 c1 L _ HL.out (by omega) HZ1.out HC.out).mono ?_
  rintro e w1 ⟨a', c1', rfl, hca1, hza1, _, hb1⟩
  have HA1 := show Hid _ from (show Cells w1 a' L ∧ NilOk a' n1 c1' from ⟨hca1, hza1⟩)
  clear hca1 hza1
  go_wp2_with fail
  refine (clone_any b n2 c2 R _ HR.out (by omega) HZ2.out (add_below HC2.out hb1)).mono ?_
  rintro e w2 ⟨b', c2', rfl, hcb2, hzb2, _, hb2⟩
  have HB2 := show Hid _ from (show Cells w2 b' R ∧ NilOk b' n2 c2' from ⟨hcb2, hzb2⟩)
  clear hcb2 hzb2
  go_wp2_with fail
  have hal : Below w2.heap.size w2 (w2.alloc (.cells #[.int .u8 13, .int .u8 10] 5 (2, 3))) := (Below.refl _ _).alloc (Nat.le_refl _) _
  refine (cat_any a' (some ⟨w2.heap.size, 0, none⟩) n1 c1' 2 2 L [13, 10] _ HL.out rfl (by omega) ((HA1.out.1.below hb2).below hal) (crlf_const w2) HA1.out.2 (NilOk.some _ _ _)).mono ?_
  rintro e w3 ⟨rfl, hr3, hs3, hb3⟩
  have hsz : (w2.alloc (.cells #[.int .u8 13, .int .u8 10] 5 (2, 3))).heap.size = w2.heap.size + 1 := by simp
  have hb23 : Below w2.heap.size w2 w3 := hal.trans (hb3.mono (by omega))
  rw [hsz] at hr3 hs3
  have HR3 : Hid (Row w3 (w2.heap.size + 1) 0 (L ++ [13, 10])) := hr3
  clear hr3 hal hsz hb3
  go_wp2_with fail
  refine (cat_any _ b' (n1 + 2) (n1 + 2) n2 c2' (L ++ [13, 10]) R _ (by have := HL.out; simp; omega) HR.out (by omega) (by exact HR3.out.cells) (HB2.out.1.below hb23) (NilOk.some _ _ _) HB2.out.2).mono ?_
  rintro e w4 ⟨rfl, hr4, hs4, hb4⟩
  have HR4 : Hid (Row w4 w3.heap.size 0 (L ++ [13, 10] ++ R)) := hr4
  clear hr4
  have HF := show Hid _ from (cat_first L R HN.out)
  go_wp2_with (go_at_call 23; go_in)
  refine (cut_at _ n1 n2 (L ++ [13, 10] ++ R) _ (by have := HL.out; have := HR.out; simp; omega) (by omega) HR4.out (by have := HF.out.1; rw [HL.out] at this; exact this) (by have := HF.out.2; rw [HL.out] at this; exact this)).mono ?_
  rintro e w5 ⟨rfl, q5, rfl⟩
  have HE1 : Hid (Cells w4 (some ⟨w3.heap.size, 0, none⟩) L) := by
    have := HR4.out.take n1
    rw [List.append_assoc, ← HL.out, List.take_left] at this
    exact this.cells
  have HE2 : Hid (Cells w4 a' L) := (((HA1.out.1.below hb2).below hb23)).below hb4
  have HE3 : Hid (Cells w4 (some ⟨w3.heap.size, rOff n1 n2, none⟩) R) := by
    intro hne
    have h0 : ¬ n2 = 0 := by have := HR.out; omega
    have e1 : rOff n1 n2 = n1 + 2 := if_neg h0
    rw [e1]
    have := HR4.out.drop (n1 + 2)
    rw [Nat.zero_add, List.drop_append_of_le_length (by have := HL.out; simp; omega), List.drop_of_length_le (by have := HL.out; simp; omega), List.nil_append] at this
    exact this.cells hne
  have HE4 : Hid (Cells w4 b' R) := (HB2.out.1.below hb23).below hb4
  go_wp2_with fail
  refine (equal_c _ a' _ c1' n1 L _ HL.out (by omega) (by exact HE1.out) (by exact HE2.out)).mono ?_
  rintro e w6 ⟨rfl, q6, rfl⟩
  go_wp2_with fail
  refine (equal_c _ b' _ c2' n2 R _ HR.out (by omega) (by exact HE3.out) (by exact HE4.out)).mono ?_
  rintro e w7 ⟨rfl, q7, rfl⟩
  go_wp2
  go_ret
  have s1 := hb1.size
  have s2 := hb2.size
  have s23 := hb23.size
  exact ⟨rfl, below_drewN (((hb1.trans (hb2.mono s1)).trans (hb23.mono (by omega))).trans (hb4.mono (by omega))) _⟩

theorem walk (a b : Option Addr) (n1 c1 n2 c2 : Nat) (L R : List UInt8) (w : World) (v1 : View w a n1 c1 L) (v2 : View w b n2 c2 R) :
    Calls Try.prog 6 #[.slice a n1 c1, .slice b n2 c2] w fun e w' => e = .returned (.bool true) ∧ Below w.heap.size w w' := by
  by_cases h20 : n1 + n2 ≤ 1048576
  · by_cases hex : ∃ i, At L i
    · exact walk_has a b n1 c1 n2 c2 L w h20 v1.1 v1.2.2.2.1 hex
    · exact walk_no a b n1 c1 n2 c2 L R w h20 v1.1 v2.1 v1.2.1 v2.2.1 v1.2.2.1 v2.2.2.1 v1.2.2.2.1 (fun i h => hex ⟨i, h⟩)
  · exact walk_big a b n1 c1 n2 c2 w v1.2.2.2.2 v2.2.2.2.2 h20
end round
end Go.Proofs.Qxb6002681a
