import Derived.Test.Qxb6002681aCut
import Derived.OpenShut
namespace Go.Proofs.Qxb6002681a
open Go.RowKit

theorem nums (w : World) (x : Addr) (zs : List Int) (len : Nat) (hl : len ≤ zs.length) (hwf : ∀ n ∈ zs, (Lit.int .u8 n).wf = true) (hcell : ∀ i, i < zs.length → w.cell? (x.add i) = some (.int .u8 (zs.getD i 0))) :
    ∃ L : List UInt8, L.length = len ∧ ∀ i, i < len → w.cell? (x.add i) = some (.int .u8 ((L.getD i 0).toNat : Int)) := by
  refine ⟨(zs.take len).map (fun n => UInt8.ofNat n.toNat), by simp; omega, fun i hi => ?_⟩
  have hiz : i < zs.length := by omega
  rw [hcell i hiz]
  have hb := bounds_u8 (hwf zs[i] (List.getElem_mem hiz))
  have e1 : zs.getD i 0 = zs[i] := by simp [List.getD, hiz]
  have e2 : ((zs.take len).map (fun n => UInt8.ofNat n.toNat)).getD i 0 = UInt8.ofNat zs[i].toNat := by simp [List.getD, hi, hiz]
  rw [e1, e2, UInt8.toNat_ofNat']
  congr 2
  omega

namespace splits
set_option maxHeartbeats 400000 in
theorem bytes_any (a : Option Addr) (len cap : Nat) (b : Bool) (w : World) (hl : len ≤ maxLen) (h : b = decide (len ≤ 1048576)) :
    Calls Try.prog 24 #[.slice a len cap] w fun e w' => e = .returned (.bool b) ∧ w = w' := by
  unfold maxLen at hl
  by_cases h1 : len ≤ 1048576
  · obtain rfl : b = true := by rw [h]; simpa using h1
    clear h
    go_enter Try.func24, Try.ntmps24
    go_wp2
    go_ret
    exact ⟨rfl, rfl⟩
  · obtain rfl : b = false := by rw [h]; simpa using h1
    clear h
    go_enter Try.func24, Try.ntmps24
    go_wp2
    go_ret
    exact ⟨rfl, rfl⟩

set_option maxHeartbeats 1000000 in
theorem walk_nil (w : World) : Calls Try.prog 7 #[.slice none 0 0] w fun e w' => e = .returned (.bool true) ∧ Below w.heap.size w w' := by
  have q := q22
  go_enter Try.func7, Try.ntmps7
  go_wp2_with (first
    | (go_at_call 24; refine (bytes_any none 0 0 true _ (Nat.zero_le _) rfl).mono ?_; rintro e w' ⟨rfl, rfl⟩)
    | (go_at_call 12; refine (clone_nil _).mono ?_; rintro e w' ⟨rfl, rfl⟩)
    | (go_at_call 32; refine (cut_nil _).mono ?_; rintro e w' ⟨rfl, rfl⟩)
    | (go_at_call 22; refine (crlf_any none 0 0 [] false _ rfl (by omega) (fun h => absurd rfl h) (by simp [At])).mono ?_; rintro e w' ⟨rfl, rfl⟩)
    | go_in)
  go_ret
  exact ⟨rfl, Below.refl _ _⟩

theorem walk_big (a : Option Addr) (len cap : Nat) (w : World) (hlm : len ≤ maxLen) (h20 : ¬ len ≤ 1048576) : Calls Try.prog 7 #[.slice a len cap] w fun e w' => e = .returned (.bool true) ∧ Below w.heap.size w w' := by
  go_enter Try.func7, Try.ntmps7
  go_wp2_with (go_at_call 24; refine (bytes_any _ _ _ false _ hlm (by simpa using h20)).mono ?_; rintro e w' ⟨rfl, rfl⟩)
  go_ret
  exact ⟨rfl, Below.refl _ _⟩

set_option maxHeartbeats 1000000 in
theorem walk_no (x : Addr) (len cap : Nat) (L : List UInt8) (w : World) (h20 : len ≤ 1048576) (hL : L.length = len) (hc : ∀ i, i < len → w.cell? (x.add i) = some (.int .u8 ((L.getD i 0).toNat : Int))) (hno : ¬ ∃ i, At L i) :
    Calls Try.prog 7 #[.slice (some x) len cap] w fun e w' => e = .returned (.bool true) ∧ Below w.heap.size w w' := by
  have q := q22
  have HC := show Hid _ from hc
  have HL := show Hid _ from hL
  have HN := show Hid _ from hno
  have HN2 : Hid (∀ i, ¬ At L i) := fun i h => hno ⟨i, h⟩
  clear hc hL hno
  go_enter Try.func7, Try.ntmps7
  go_wp2_with (first
    | (go_at_call 24; refine (bytes_any _ _ _ true _ (by unfold maxLen; omega) (by simpa using h20)).mono ?_; rintro e w' ⟨rfl, rfl⟩)
    | (go_at_call 12; refine (clone_some _ _ _ L _ HL.out h20 HC.out).mono ?_; rintro e w1 ⟨rfl, hr1, hs1, hb1⟩)
    | (go_at_call 32; refine (cut_no _ _ L _ HL.out (by omega) hr1 HN2.out).mono ?_; rintro e w2 ⟨rfl, rfl⟩)
    | (go_at_call 22; refine (crlf_any _ _ _ L false _ HL.out (by omega) hr1.cells ⟨(fun h => by cases h), fun ⟨i, h⟩ => absurd h (HN2.out i)⟩).mono ?_; rintro e w' ⟨rfl, rfl⟩)
    | go_in)
  go_ret
  exact ⟨rfl, hb1⟩

set_option maxHeartbeats 1000000 in
theorem walk_yes0 (x : Addr) (n p cap : Nat) (L : List UInt8) (w : World) (h20 : n ≤ 1048576) (hnp : p + 2 = n) (hL : L.length = n) (hc : ∀ i, i < n → w.cell? (x.add i) = some (.int .u8 ((L.getD i 0).toNat : Int))) (hp : At L p) (hno : ∀ i, i < p → ¬ At L i) :
    Calls Try.prog 7 #[.slice (some x) n cap] w fun e w' => e = .returned (.bool true) ∧ Below w.heap.size w w' := by
  have q := q22
  have HC := show Hid _ from hc
  have HL := show Hid _ from hL
  have HP : Hid (At L p) := hp
  have HN := show Hid _ from hno
  have HB2 : Hid (∀ i, ¬ At (L.take p) i) := fun i h => take_no L p hno ⟨i, h⟩
  have HTL : Hid ((L.take p).length = p) := by rw [Hid]; simp; omega
  have HNP := show Hid _ from hnp
  have hni : (p : Int) + 2 = (n : Int) := by omega
  have hpn : p + 1 < n := by omega
  clear hc hL hp hno
  go_enter Try.func7, Try.ntmps7
  go_wp2_with (first
    | (go_at_call 24; refine (bytes_any _ _ _ true _ (by unfold maxLen; omega) (by simpa using h20)).mono ?_; rintro e w' ⟨rfl, rfl⟩)
    | (go_at_call 12; refine (clone_some _ _ _ L _ HL.out h20 HC.out).mono ?_; rintro e w1 ⟨rfl, hr1, hs1, hb1⟩)
    | (go_at_call 32; refine (cut_end _ _ p L _ HNP.out HL.out (by omega) hr1 HP.out HN.out).mono ?_; rintro e w2 ⟨rfl, q2, rfl⟩)
    | (go_at_call 23; go_in))
  have cp := hr1.at p (by have := HL.out; omega)
  have cq := hr1.at (p + 1) (by have := HL.out; omega)
  rw [HP.out.2.1, Nat.zero_add] at cp
  rw [HP.out.2.2, Nat.zero_add] at cq
  have HR1 : Hid (Row w1 w.heap.size 0 L ∧ Row w1 w.heap.size 0 (L.take p) ) := ⟨hr1, hr1.take p⟩
  clear hr1
  refine (crlf_any _ _ _ L true _ HL.out (by omega) (by exact HR1.out.1.cells) ⟨fun _ => ⟨p, HP.out⟩, fun _ => rfl⟩).mono ?_
  rintro e w' ⟨rfl, rfl⟩
  go_wp2_with fail
  refine (crlf_any _ _ _ (L.take p) false _ HTL.out (by omega) (by exact HR1.out.2.cells) ⟨(fun h => by cases h), fun ⟨i, h⟩ => absurd h (HB2.out i)⟩).mono ?_
  rintro e w' ⟨rfl, rfl⟩
  go_wp2_with fail
  refine (equal_yes _ _ _ _ _ (L.take p) _ HTL.out (by omega) (fun _ => ⟨_, _, rfl, by exact HR1.out.2⟩) (fun _ => ⟨_, _, rfl, by exact HR1.out.2⟩)).mono ?_
  rintro e w' ⟨rfl, q3, rfl⟩
  go_wp2_with fail
  refine (equal_yes _ _ _ _ 0 [] _ rfl (by omega) (fun h => absurd rfl h) (fun h => absurd rfl h)).mono ?_
  rintro e w' ⟨rfl, q4, rfl⟩
  go_wp2
  go_ret
  exact ⟨rfl, below_drewN hb1 _⟩

set_option maxHeartbeats 1000000 in
theorem walk_yes (x : Addr) (p r cap : Nat) (L : List UInt8) (w : World) (h20 : p + 2 + r ≤ 1048576) (hL : L.length = p + 2 + r) (hc : ∀ i, i < p + 2 + r → w.cell? (x.add i) = some (.int .u8 ((L.getD i 0).toNat : Int))) (hp : At L p) (hno : ∀ i, i < p → ¬ At L i) (hr0 : ¬ r = 0) :
    Calls Try.prog 7 #[.slice (some x) (p + 2 + r) cap] w fun e w' => e = .returned (.bool true) ∧ Below w.heap.size w w' := by
  have q := q22
  have HC := show Hid _ from hc
  have HL := show Hid _ from hL
  have HP : Hid (At L p) := hp
  have HN := show Hid _ from hno
  have HB2 : Hid (∀ i, ¬ At (L.take p) i) := fun i h => take_no L p hno ⟨i, h⟩
  have HTL : Hid ((L.take p).length = p) := by rw [Hid]; simp; omega
  have HDL : Hid ((L.drop (p + 2)).length = r) := by rw [Hid]; simp; omega
  clear hc hL hp hno
  have hro : rOff p r = p + 2 := if_neg hr0
  go_enter Try.func7, Try.ntmps7
  go_wp2_with (first
    | (go_at_call 24; refine (bytes_any _ _ _ true _ (by unfold maxLen; omega) (by simpa using h20)).mono ?_; rintro e w' ⟨rfl, rfl⟩)
    | (go_at_call 12; refine (clone_some _ _ _ L _ HL.out h20 HC.out).mono ?_; rintro e w1 ⟨rfl, hr1, hs1, hb1⟩)
    | (go_at_call 32; refine (cut_at _ _ r L _ HL.out (by omega) hr1 HP.out HN.out).mono ?_; rintro e w2 ⟨rfl, q2, rfl⟩)
    | (go_at_call 23; go_in))
  have cp := hr1.at p (by have := HL.out; omega)
  have cq := hr1.at (p + 1) (by have := HL.out; omega)
  rw [HP.out.2.1, Nat.zero_add] at cp
  rw [HP.out.2.2, Nat.zero_add] at cq
  have hrd : Row w1 w.heap.size (p + 2) (L.drop (p + 2)) := by have := hr1.drop (p + 2); rw [Nat.zero_add] at this; exact this
  have HR1 : Hid (Row w1 w.heap.size 0 L ∧ Row w1 w.heap.size 0 (L.take p) ∧ Row w1 w.heap.size (p + 2) (L.drop (p + 2))) := ⟨hr1, hr1.take p, hrd⟩
  clear hr1 hrd
  refine (crlf_any _ _ _ L true _ HL.out (by omega) (by exact HR1.out.1.cells) ⟨fun _ => ⟨p, HP.out⟩, fun _ => rfl⟩).mono ?_
  rintro e w' ⟨rfl, rfl⟩
  go_wp2_with fail
  refine (crlf_any _ _ _ (L.take p) false _ HTL.out (by omega) (by exact HR1.out.2.1.cells) ⟨(fun h => by cases h), fun ⟨i, h⟩ => absurd h (HB2.out i)⟩).mono ?_
  rintro e w' ⟨rfl, rfl⟩
  go_wp2_with fail
  refine (equal_yes _ _ _ _ _ (L.take p) _ HTL.out (by omega) (fun _ => ⟨_, _, rfl, by exact HR1.out.2.1⟩) (fun _ => ⟨_, _, rfl, by exact HR1.out.2.1⟩)).mono ?_
  rintro e w' ⟨rfl, q3, rfl⟩
  go_wp2_with fail
  refine (equal_yes _ _ _ _ _ (L.drop (p + 2)) _ HDL.out (by omega) (fun _ => ⟨_, _, rfl, by exact HR1.out.2.2⟩) (fun _ => ⟨_, _, rfl, by exact HR1.out.2.2⟩)).mono ?_
  rintro e w' ⟨rfl, q4, rfl⟩
  go_wp2
  go_ret
  exact ⟨rfl, below_drewN hb1 _⟩
end splits
end Go.Proofs.Qxb6002681a
