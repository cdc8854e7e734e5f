import Derived.Test.Qxb6001367aClone
import Derived.RegionTactic
import Derived.Deep.LoopGhost
namespace Go.Proofs.Qxb6001367a
open Go.RowKit

set_option maxHeartbeats 400000 in
theorem clone24 (g0 o0 n c : Nat) (L : List Nat) (w : World) (hL : L.length = n) (hn : n ≤ 1048576) (hr : Row w g0 o0 L) :
    Calls Try.prog 24 #[.slice (some ⟨g0, o0, none⟩) n c] w fun e w' => ∃ g cap, e = .returned (.slice (some ⟨g, 0, none⟩) n cap) ∧ n ≤ cap ∧ cap ≤ maxLen ∧ w.heap.size ≤ g ∧ g < w'.heap.size ∧ Row w' g 0 L ∧ Below w.heap.size w w' := by
  have q22 : ∀ (w : World) (a : Option Addr) (n c n' c' : Nat), (binOp .eql 22 (.slice a n c) (.slice none n' c')).run Try.prog w = .ok (.bool a.isNone) w := fun w a n c n' c' => Lib.run_eql_slice_nil w _ _ a n c n' c' Try.underlying22
  obtain ⟨i0, hi, hz0, hz1, hz2⟩ := info_parts Try.info5
  have HR : Hid (Row w g0 o0 L) := hr
  have HL : Hid (L.length = n) := hL
  clear hr hL
  go_enter Try.func24, Try.ntmps24
  go_wp2_with (at_builtin; refine wpList_append_own _ rfl _ _ 22 rfl w.heap.size 5 i0 (.int .u8 0) 1 1 Try.underlying22 hi hz0 hz1 hz2 rfl (by decide) _ _ _ rfl (World.ownsRow_made w #[] 0 (Nat.le_refl _) (Nat.zero_le _) (by simp)) ⟨g0, o0, none⟩ n c (L.map (fun (x : Nat) => Value.int .u8 (x : Int))) rfl ?qc1 ?qc2 ?qc3 ?qc4 ?qc5 ?qc6 ?_)
  case qc1 => have := HL.out; simpa using this
  case qc2 =>
    intro j u hj
    rw [Addr.add_lit]
    rw [List.getElem?_map] at hj
    obtain ⟨x, hx, rfl⟩ := Option.map_eq_some_iff.1 hj
    obtain ⟨hjl, hxe⟩ := List.getElem?_eq_some_iff.1 hx
    have := HR.out.at j hjl
    rw [Lib.cell?_alloc_some _ this]
    simp [List.getD, hx]
  case qc3 => intro u hu; obtain ⟨x, _, rfl⟩ := List.mem_map.1 hu; rfl
  case qc4 => rw [Nat.zero_add]; unfold maxLen; omega
  case qc5 => rw [Nat.zero_add]; omega
  case qc6 => simp
  intro v' w1 hown hgrow hnil
  have hown2 : w1.ownsRow w.heap.size 5 1 v' n (L.map (fun (x : Nat) => Value.int .u8 (x : Int))) := by simpa using hown
  have hb : Below w.heap.size w w1 := ((Below.refl _ w).alloc (Nat.le_refl _) _).grown hgrow (by simp) (by intro k hk; simp [Value.ownBlock] at hk; omega)
  have hex : ∃ g cap, v' = .slice (some ⟨g, 0, none⟩) n cap ∧ n ≤ cap ∧ cap ≤ maxLen ∧ w.heap.size ≤ g ∧ g < w1.heap.size := by
    rcases hown2.2 with ⟨h, _⟩ | ⟨g, cap, cur, h, hbg, hg, hnc, hcm, _⟩
    · exact absurd h (by simpa using hnil)
    · exact ⟨g, cap, h, hnc, hcm, hbg, (Array.getElem?_eq_some_iff.1 hg).1⟩
  clear hown hgrow hnil
  obtain ⟨g, cap, hv, h1, h2, h3, h4⟩ := hex
  have hr2 : Row w1 g 0 L := Row.owned (by rw [← hv]; exact hown2)
  clear hown2
  go_wp2
  go_ret
  exact ⟨g, cap, by rw [hv]; rfl, h1, h2, h3, h4, hr2, hb⟩

def RevTo (D lk : List Nat) (k : Nat) : Prop := lk.length = D.length ∧ ∀ t, t < D.length → lk.getD t 0 = if t < k ∨ D.length ≤ t + k then D.getD (D.length - 1 - t) 0 else D.getD t 0
theorem rev_start (D : List Nat) : RevTo D D 0 := ⟨rfl, fun t h => by rw [if_neg (by omega)]⟩
theorem rev_step {D lk : List Nat} {k jn x y : Nat} (h : RevTo D lk k) (hj : k + jn + 1 = D.length) (hlt : k < jn) (hx : lk.getD k 0 = x) (hy : lk.getD jn 0 = y) : RevTo D ((lk.set k y).set jn x) (k + 1) := by
  obtain ⟨hl, he⟩ := h
  refine ⟨by simpa using hl, fun t ht => ?_⟩
  have e1 := he k (by omega)
  have e2 := he jn (by omega)
  rw [if_neg (by omega)] at e1 e2
  have e3 := he t ht
  by_cases h1 : t = jn
  · subst h1
    rw [List.getD, List.getElem?_set_self (by simp; omega), if_pos (by omega), ← hx, e1, show D.length - 1 - t = k from by omega]
    rfl
  · by_cases h2 : t = k
    · subst h2
      rw [List.getD, List.getElem?_set_ne (by omega), List.getElem?_set_self (by omega), if_pos (by omega), ← hy, e2, show D.length - 1 - t = jn from by omega]
      rfl
    · rw [List.getD, List.getElem?_set_ne (by omega), List.getElem?_set_ne (by omega)]
      rw [List.getD] at e3
      rw [e3]
      by_cases h3 : t < k ∨ D.length ≤ t + k
      · rw [if_pos h3, if_pos (by omega)]
      · rw [if_neg h3, if_neg (by omega)]
theorem rev_end {D lk : List Nat} {k : Nat} (h : RevTo D lk k) (hk : D.length ≤ 2 * k + 1) : lk = D.reverse := by
  obtain ⟨hl, he⟩ := h
  apply List.ext_getElem (by simpa using hl)
  intro t h1 h2
  have := he t (by omega)
  simp only [List.getD, List.getElem?_eq_getElem h1, Option.getD_some] at this
  rw [this, List.getElem_reverse]
  by_cases h3 : t < k ∨ D.length ≤ t + k
  · rw [if_pos h3, List.getElem?_eq_getElem (by omega)]; rfl
  · rw [if_neg h3, List.getElem?_eq_getElem (by omega), Option.getD_some]
    congr 1
    omega

set_option maxHeartbeats 1000000 in
theorem reverse25 (g n c : Nat) (D : List Nat) (w : World) (hD : D.length = n) (hn : n ≤ 1048576) (h1 : 1 ≤ n) (hr : Row w g 0 D) (B : Nat) (hg : B ≤ g) :
    Calls Try.prog 25 #[.slice (some ⟨g, 0, none⟩) n c] w fun e w' => e = .returned (.tuple #[]) ∧ Row w' g 0 D.reverse ∧ Below B w w' := by
  have HD : Hid (D.length = n) := hD
  have HR : Hid (Row w g 0 D) := hr
  clear hD hr
  go_enter Try.func25, Try.ntmps25
  go_wp2
  go_loopw [2, 3] (fun i j wr => ∃ (k : Nat) (lk : List Nat), 2 * k ≤ n ∧ i = .int .i64 k ∧ j = .int .i64 ((n : Int) - 1 - k) ∧ RevTo D lk k ∧ Row wr g 0 lk ∧ Below B w wr) (fun i _ _ => n - (intOf i).toNat)
  case atStart => exact ⟨0, D, Nat.zero_le _, rfl, by simp, rev_start D, HR.out, Below.refl _ _⟩
  case round =>
    obtain ⟨k, lk, hk, rfl, rfl, hrev, hr, hb⟩ := hrel
    by_cases hlt : 2 * k + 1 < n
    · obtain ⟨jn, hjn⟩ : ∃ jn, k + jn + 1 = n := ⟨n - 1 - k, by omega⟩
      rw [show ((n : Int) - 1 - (k : Int)) = (jn : Int) from by omega]
      have hll : lk.length = n := by have := HD.out; have := hrev.1; omega
      obtain ⟨x, hx⟩ : ∃ x, lk.getD k 0 = x := ⟨_, rfl⟩
      obtain ⟨y, hy⟩ : ∃ y, lk.getD jn 0 = y := ⟨_, rfl⟩
      have cx := hr.at k (by omega)
      have cy := hr.at jn (by omega)
      have fx := hr.free k (by omega)
      have fy := hr.free jn (by omega)
      rw [hx, Nat.zero_add] at cx
      rw [hy, Nat.zero_add] at cy
      rw [Nat.zero_add] at fx fy
      have hlt2 : (k : Int) < (jn : Int) := by omega
      have hjn2 : (jn : Int) < (n : Int) := by omega
      have hkn2 : (k : Int) < (n : Int) := by omega
      have hne : ¬ k = jn := by omega
      have hne2 : ¬ jn = k := by omega
      have hset := (hr.set k y (by omega)).set jn x (by simp; omega)
      rw [Nat.zero_add, Nat.zero_add] at hset
      have HS := show Hid _ from hset
      have HV := show Hid _ from rev_step hrev (by have := HD.out; omega) (by omega) hx hy
      have HB := show Hid _ from hb
      have HJ := show Hid _ from hjn
      clear hset hrev hx hy hr hb hll hlt
      go_wp2_with fail
      go_region
      go_wp2
      go_roundw
      case rel => exact ⟨k + 1, _, by have := HJ.out; omega, by go_num, by have := HJ.out; go_num, HV.out, HS.out, ((HB.out.setCell (by exact hg) _).setCell (by exact hg) _).drew⟩
      case measure => have := HJ.out; simp [intOf]; omega
    · have hend := rev_end hrev (by have := HD.out; omega)
      rw [hend] at hr
      clear hrev hend
      go_wp2
      go_end0
      exact ⟨rfl, hr, hb⟩

set_option maxHeartbeats 400000 in
theorem reverse25_empty (a : Option Addr) (c : Nat) (w : World) :
    Calls Try.prog 25 #[.slice a 0 c] w fun e w' => e = .returned (.tuple #[]) ∧ w = w' := by
  go_enter Try.func25, Try.ntmps25
  go_wp2
  refine wp_loop_rounds 1 ?_
  rw [rounds_succ]
  go_wp2
  go_end0
  exact ⟨rfl, rfl⟩
end Go.Proofs.Qxb6001367a
