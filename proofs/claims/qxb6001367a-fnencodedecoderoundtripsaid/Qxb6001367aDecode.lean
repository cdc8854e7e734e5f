import Derived.Test.Qxb6001367aClone
import Derived.Test.Qxb6001367aDigits
namespace Go.Proofs.Qxb6001367a
open Go.RowKit

theorem zeros_small (n : Nat) : small (List.replicate n 0) := by
  intro x hx
  have := List.eq_of_mem_replicate hx
  omega
theorem zeros_be (n : Nat) : be (List.replicate n 0) = 0 := by
  induction n with
  | zero => rfl
  | succ n ih => rw [List.replicate_succ, be_zero_cons, ih]
theorem dec_x {l new : List Nat} {size u x : Nat} (hll : l.length = size) (hu : u + 1 ≤ size) (hx : (l.take (u + 1) ++ new).getD u 0 = x) : ∃ h : u < l.length, x = l[u] := by
  refine ⟨by omega, ?_⟩
  rw [← hx]
  have : u < (l.take (u + 1)).length := by simp; omega
  rw [List.getD, List.getElem?_append_left this]
  simp [show u < l.length by omega]
theorem dec_lt {l new : List Nat} {size u x : Nat} (hll : l.length = size) (hsm : small l) (hu : u + 1 ≤ size) (hx : (l.take (u + 1) ++ new).getD u 0 = x) : x < 256 := by
  obtain ⟨h, e⟩ := dec_x hll hu hx
  rw [e]
  exact small_get hsm u h
theorem dec_step {w wr : World} {size u cn d x g : Nat} {l new : List Nat} (hll : l.length = size) (hsm : small l) (hu : u + 1 ≤ size) (hcn : cn < 62) (hx : (l.take (u + 1) ++ new).getD u 0 = x) (hg : w.heap.size ≤ g)
    (hrel : new.length = size - (u + 1) ∧ small new ∧ be new + cn * 256 ^ (size - (u + 1)) = be (l.drop (u + 1)) * 62 + d ∧ Row wr g 0 (l.take (u + 1) ++ new) ∧ Below w.heap.size w wr) :
    (x * 62 + cn) / 256 < 62 ∧ ((x * 62 + cn) % 256 :: new).length = size - u ∧ small ((x * 62 + cn) % 256 :: new) ∧
      be ((x * 62 + cn) % 256 :: new) + (x * 62 + cn) / 256 * 256 ^ (size - u) = be (l.drop u) * 62 + d ∧
      Row (wr.setCell ⟨g, u, none⟩ (.int .u8 (((x : Int) * 62 + (cn : Int)) % 256))) g 0 (l.take u ++ (x * 62 + cn) % 256 :: new) ∧ Below w.heap.size w (wr.setCell ⟨g, u, none⟩ (.int .u8 (((x : Int) * 62 + (cn : Int)) % 256))) := by
  obtain ⟨hnl, hns, heq, hr, hb⟩ := hrel
  have hx256 := dec_lt hll hsm hu hx
  obtain ⟨hul, hxe⟩ := dec_x hll hu hx
  refine ⟨by omega, by simp; omega, small_cons hns (by omega), ?_, ?_, hb.setCell hg _⟩
  · rw [be_cons, hnl]
    have e1 : size - u = (size - (u + 1)) + 1 := by omega
    have e2 : l.drop u = x :: l.drop (u + 1) := by rw [hxe]; exact List.drop_eq_getElem_cons hul
    have e3 : (l.drop (u + 1)).length = size - (u + 1) := by simp; omega
    rw [e1, e2, be_cons, e3, Nat.pow_succ]
    exact mul_step _ _ _ _ _ _ heq
  · have hlen : u < (l.take (u + 1) ++ new).length := by simp; omega
    have hset := hr.set u ((x * 62 + cn) % 256) hlen
    rw [Nat.zero_add] at hset
    have e : (l.take (u + 1) ++ new).set u ((x * 62 + cn) % 256) = l.take u ++ (x * 62 + cn) % 256 :: new := by
      rw [List.take_succ_eq_append_getElem (by omega), List.append_assoc]
      have hk : (l.take u).length = u := by simp; omega
      rw [List.set_append_right u _ (by omega), hk, Nat.sub_self]
      rfl
    rw [e] at hset
    rw [show ((x : Int) * 62 + (cn : Int)) % 256 = (((x * 62 + cn) % 256 : Nat) : Int) from by omega]
    exact hset

theorem dec_end {w wr : World} {size cn d k g : Nat} {l new E : List Nat} (hk : k < E.length) (hd : E.getD k 0 = d) (hV : v62 E < 256 ^ size) (hbe : be l = v62 (E.take k))
    (hrel : new.length = size - 0 ∧ small new ∧ be new + cn * 256 ^ (size - 0) = be (l.drop 0) * 62 + d ∧ Row wr g 0 (l.take 0 ++ new) ∧ Below w.heap.size w wr) :
    cn = 0 ∧ new.length = size ∧ small new ∧ be new = v62 (E.take (k + 1)) ∧ Row wr g 0 new ∧ Below w.heap.size w wr := by
  obtain ⟨hnl, hns, heq, hr, hb⟩ := hrel
  have e1 : v62 (E.take (k + 1)) = v62 (E.take k) * 62 + d := by
    rw [List.take_succ_eq_append_getElem hk, v62_snoc]
    have : d = E[k] := by rw [← hd]; simp [List.getD, hk]
    rw [this]
  rw [List.drop_zero, hbe, ← e1, Nat.sub_zero] at heq
  have hle := v62_take_le E (k + 1)
  have hc : cn = 0 := by
    rcases Nat.eq_zero_or_pos cn with h | h
    · exact h
    · have : 1 * 256 ^ size ≤ cn * 256 ^ size := Nat.mul_le_mul_right _ h
      omega
  refine ⟨hc, by simpa using hnl, hns, ?_, by simpa using hr, hb⟩
  rw [hc] at heq
  omega

set_option maxHeartbeats 1000000 in
theorem dec_yes (s : ByteArray) (E : List Nat) (size : Nat) (w : World) (hsz : size ≤ 4096) (hss : s.size ≤ 1048576) (hEl : E.length = s.size)
    (hE : ∀ d ∈ E, d < 62) (hs : ∀ k, (h : k < s.size) → s[k].toNat = ch (E.getD k 0)) (hp : Lib.hasPrefix s.data.toList [48] = false) (hV : v62 E < 256 ^ size) :
    Calls Try.prog 23 #[.string s, .int .i64 size] w fun e w' => ∃ l, e = .returned (.tuple #[.slice (some ⟨w.heap.size, 0, none⟩) size size, .bool true]) ∧ l.length = size ∧ small l ∧ be l = v62 E ∧ Row w' w.heap.size 0 l ∧ Below w.heap.size w w' := by
  obtain ⟨i0, hi, hz0, hz1, hz2⟩ := info_parts Try.info5
  have HEl : Hid (E.length = s.size) := hEl
  have HE : Hid (∀ d ∈ E, d < 62) := hE
  have HS : Hid (∀ k, (h : k < s.size) → s[k].toNat = ch (E.getD k 0)) := hs
  have HV : Hid (v62 E < 256 ^ size) := hV
  clear hEl hE hs hV
  go_enter Try.func23, Try.ntmps23
  go_wp2_with (first
    | (go_at_call 26; refine (Try.strings_HasPrefix _ _ _).mono ?_; rintro e w' ⟨rfl, hw'⟩; obtain rfl := hw'.symm)
    | (at_make; refine wpList_make_full _ rfl _ _ 22 rfl w.heap.size 5 i0 (.int .u8 0) 1 Try.underlying22 hi hz0 hz1 _ _ _ _ size rfl rfl rfl rfl (by rw [hz2]; omega) (by unfold maxLen; omega) (Nat.le_refl _) ?_))
  intro w1 hown hgr
  have hrow : Row w1 w.heap.size 0 (List.replicate size 0) := made_row hown
  have hbel : Below w.heap.size w w1 := (Below.refl _ _).grown hgr (Nat.le_refl _) (by intro k hk; cases hk)
  clear hown hgr
  go_wp2
  go_loopw [17] (fun i wr => ∃ (k : Nat) (l : List Nat), k ≤ s.size ∧ i = .int .i64 k ∧ l.length = size ∧ small l ∧ be l = v62 (E.take k) ∧ Row wr w.heap.size 0 l ∧ Below w.heap.size w wr) (fun i _ => s.size - (intOf i).toNat)
  case atStart => exact ⟨0, List.replicate size 0, Nat.zero_le _, rfl, by simp, zeros_small size, zeros_be size, hrow, hbel⟩
  case round =>
    obtain ⟨k, l, hk, rfl, hll, hsm, hbe, hr, hb⟩ := hrel
    have HLL : Hid (l.length = size) := hll
    have HBE : Hid (be l = v62 (E.take k)) := hbe
    have HSM : Hid (small l) := hsm
    have HR : Hid (Row wr w.heap.size 0 l) := hr
    have HB : Hid (Below w.heap.size w wr) := hb
    clear hll hbe hsm hr hb
    by_cases hlt : k < s.size
    · obtain ⟨d, hd⟩ : ∃ d, E.getD k 0 = d := ⟨_, rfl⟩
      have hd62 : d < 62 := by
        have h1 := HEl.out
        rw [← hd]; apply HE.out; simp [List.getD, h1, hlt]
      have HC : Hid ((s[k].toNat : Int) = (ch d : Int)) := by have := HS.out k hlt; rw [hd] at this; rw [Hid, this]
      have HD : Hid (E.getD k 0 = d) := hd
      clear hd
      go_wp2_with (go_at_call 27; refine (idx62 d _ _ hd62 HC.out).mono ?_; rintro e w' ⟨rfl, hw'⟩; obtain rfl := hw'.symm)
      go_loopw [8, 9] (fun c j wi => ∃ (t cn : Nat) (new : List Nat), t ≤ size ∧ c = .int .i64 cn ∧ j = .int .i64 ((t : Int) - 1) ∧ cn < 62 ∧ new.length = size - t ∧ small new ∧ be new + cn * 256 ^ (size - t) = be (l.drop t) * 62 + d ∧ Row wi w.heap.size 0 (l.take t ++ new) ∧ Below w.heap.size w wi)
        (fun _ j _ => (intOf j + 1).toNat)
      case atStart =>
        exact ⟨size, d, [], Nat.le_refl _, rfl, rfl, hd62, by simp, small_nil, by have := HLL.out; simp [be_nil, List.drop_of_length_le (Nat.le_of_eq this)], by have := HLL.out; simpa [List.take_of_length_le (Nat.le_of_eq this)] using HR.out, HB.out⟩
      case round =>
        obtain ⟨t, cn, new, ht, rfl, rfl, hcn, hnl, hns, heq, hri, hbi⟩ := hrel
        have HRel : Hid (new.length = size - t ∧ small new ∧ be new + cn * 256 ^ (size - t) = be (l.drop t) * 62 + d ∧ Row wr w.heap.size 0 (l.take t ++ new) ∧ Below w.heap.size w wr) := ⟨hnl, hns, heq, hri, hbi⟩
        clear hnl hns heq hri hbi
        by_cases ht0 : t = 0
        · subst ht0
          have hz : cn = 0 ∧ new.length = size ∧ small new ∧ be new = v62 (E.take (k + 1)) ∧ Row wr w.heap.size 0 new ∧ Below w.heap.size w wr := dec_end (by have := HEl.out; omega) HD.out HV.out HBE.out HRel.out
          obtain ⟨rfl, hz⟩ := hz
          have HZ := show Hid _ from hz
          clear hz
          go_wp2
          go_roundw
          case rel => exact ⟨k + 1, new, by omega, by go_num, HZ.out.1, HZ.out.2.1, HZ.out.2.2.1, HZ.out.2.2.2.1, HZ.out.2.2.2.2⟩
          case measure => simp [intOf]; omega
        · obtain ⟨u, rfl⟩ : ∃ u, t = u + 1 := ⟨t - 1, by omega⟩
          obtain ⟨x, hx⟩ : ∃ x, (l.take (u + 1) ++ new).getD u 0 = x := ⟨_, rfl⟩
          have hcx := HRel.out.2.2.2.1.at u (by have := HLL.out; simp; omega)
          have hfx := HRel.out.2.2.2.1.free u (by have := HLL.out; simp; omega)
          rw [hx, Nat.zero_add] at hcx
          rw [Nat.zero_add] at hfx
          have hx256 : x < 256 := dec_lt HLL.out HSM.out ht hx
          clear ht0
          have HX : Hid ((l.take (u + 1) ++ new).getD u 0 = x) := hx
          clear hx
          rw [show (((u + 1 : Nat) : Int) - 1) = (u : Int) from by omega]
          have HST := show Hid _ from dec_step HLL.out HSM.out ht hcn HX.out (Nat.le_refl w.heap.size) HRel.out
          go_wp2
          go_roundw
          case rel => exact ⟨u, (x * 62 + cn) / 256, (x * 62 + cn) % 256 :: new, by omega, by go_num, rfl, HST.out.1, HST.out.2.1, HST.out.2.2.1, HST.out.2.2.2.1, HST.out.2.2.2.2.1, HST.out.2.2.2.2.2⟩
          case measure => simp [intOf]
    · have hfin : l.length = size ∧ small l ∧ be l = v62 E ∧ Row wr w.heap.size 0 l ∧ Below w.heap.size w wr := by
        refine ⟨HLL.out, HSM.out, ?_, HR.out, HB.out⟩
        have h1 := HBE.out
        rw [List.take_of_length_le (by have := HEl.out; omega)] at h1
        exact h1
      have HF := show Hid _ from hfin
      clear hfin
      go_wp2
      go_ret2
      exact ⟨l, rfl, HF.out⟩
end Go.Proofs.Qxb6001367a
