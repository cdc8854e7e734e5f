import Derived.Test.Qxb6603870aRows
import Derived.Test.Qxb6603870aModel
import Derived.Lib.IndexLaws
import Derived.WalkSpells
import Derived.WalkKit
import Derived.ProofKit
import Derived.OpenShut
import Derived.ShutString
namespace Go.Proofs.Qxb6603870a.fnPlainStringMatchesOnePassModel
open Go.ChangeShapes Go.WideShapes Go.ChangeAt Go.RowKit
open Go.ChangeMaps (open_string shut_string)
set_option linter.unusedVariables false      -- a walk need not use every 'w<i>' (that an integer argument fits its kind)

theorem own : ownKnob Try.prog.godebug = none := by kernel_rfl

theorem grown_trans {a b c : World} (h : Grown a b) (k : Grown b c) : Grown a c := by
  refine ⟨World.keptBut_trans h.1 ?_, fun x => (k.2.1 x).trans (h.2.1 x), Nat.le_trans h.2.2 k.2.2⟩
  refine ⟨k.1.1, k.1.2.1, fun i hi => ?_⟩
  exact k.1.2.2 i (by omega)

set_option maxHeartbeats 400000 in
theorem bytes_no (a b : ByteArray) (w : World) (ha : a.size ≤ maxLen) (hb : b.size ≤ maxLen) (h : 1048576 < a.size + b.size) :
    Calls Try.prog 5 #[.string a, .string b] w fun e w' => e = .returned (.bool false) ∧ w' = w := by
  unfold maxLen at ha hb
  rcases (show 1048576 < a.size ∨ (a.size ≤ 1048576 ∧ 1048576 < b.size) ∨ (a.size ≤ 1048576 ∧ b.size ≤ 1048576) from by omega) with h1 | ⟨h1, h2⟩ | ⟨h1, h2⟩
  all_goals
    go_enter Try.func5, Try.ntmps5
    go_wp2
    go_ret
    exact ⟨rfl, rfl⟩

set_option maxHeartbeats 400000 in
theorem bytes_yes (a b : ByteArray) (w : World) (h : a.size + b.size ≤ 1048576) :
    Calls Try.prog 5 #[.string a, .string b] w fun e w' => e = .returned (.bool true) ∧ w' = w := by
  go_enter Try.func5, Try.ntmps5
  go_wp2
  go_ret
  exact ⟨rfl, rfl⟩

theorem ch34 (c : UInt8) (h : (c.toNat : Int) = 34) : c = 34 := by
  apply UInt8.toNat_inj.1; show c.toNat = 34; omega
theorem pre_yes (s : ByteArray) (h : 0 < s.size) (hq : (s[0].toNat : Int) = 34) : Lib.hasPrefix s.data.toList [34] = true := by
  have e := ch34 _ hq
  obtain ⟨⟨l⟩⟩ := s
  match l, h with
  | c :: l, _ =>
    have e' : c = 34 := e
    simp [Lib.hasPrefix, e']
theorem pre_no (s : ByteArray) (h : s.size = 0 ∨ ∃ h : 0 < s.size, ¬ (s[0].toNat : Int) = 34) : Lib.hasPrefix s.data.toList [34] = false := by
  obtain ⟨⟨l⟩⟩ := s
  match l, h with
  | [], _ => rfl
  | c :: l, h =>
    rcases h with h | ⟨_, h⟩
    · exact absurd h (by simp [ByteArray.size])
    · have e' : ¬ (c.toNat : Int) = 34 := h
      have e2 : ¬ c = 34 := by rintro rfl; exact e' rfl
      have e3 : ((34 : UInt8) == c) = false := by rw [beq_eq_false_iff_ne]; exact fun h => e2 h.symm
      simp [Lib.hasPrefix, List.isPrefixOf, e3]
theorem get_list (r : ByteArray) (n : Nat) (h : n < r.size) : r.data.toList[n]? = some r[n] := by
  rw [List.getElem?_eq_getElem (by simpa using h)]; rfl
theorem idx_uniq (l : List UInt8) (c : UInt8) (n : Nat) (h : l[n]? = some c) (hb : ∀ k, k < n → l[k]? ≠ some c) : Lib.indexByte l c = n := by
  have hge := Lib.indexByte_ge l c
  by_cases hneg : Lib.indexByte l c = -1
  · exact absurd h (Lib.indexByte_none hneg n)
  · obtain ⟨o, ho⟩ := Int.eq_ofNat_of_zero_le (show 0 ≤ Lib.indexByte l c by omega)
    have := Lib.indexByte_some ho
    rcases Nat.lt_trichotomy o n with hl | hl | hl
    · exact absurd this.1 (hb o hl)
    · rw [ho, hl]
    · exact absurd h (this.2 n hl)
theorem idx_found (r : ByteArray) (n : Nat) (hn : n < r.size) (hq : (r[n].toNat : Int) = 34) (hp : plainB (r.data.toList.take n) = true) : Lib.indexByte r.data.toList 34 = n := by
  apply idx_uniq
  · rw [get_list r n hn, ch34 _ hq]
  · intro k hk
    rw [get_list r k (by omega)]
    intro e
    have hok := ok_of_plain r n k (by omega) hk hp
    have e2 : r[k] = 34 := by simpa using e
    exact ne_of_ok _ hok (by rw [e2]; rfl)
theorem plain_ext (r : ByteArray) (n : Nat) : (r.extract 0 n).data.toList = r.data.toList.take n := by
  rw [bae, List.drop_zero]

set_option maxHeartbeats 400000 in
theorem walk (a0 : ByteArray) (a1 : ByteArray) (w0 : a0.size ≤ maxLen) (w1 : a1.size ≤ maxLen) (w : World) :
    Calls Try.prog 3 #[.string a0, .string a1] w fun e w' => e = .returned (.bool true) ∧ Grown w w' := by
  by_cases hsum : a0.size + a1.size ≤ 1048576
  · have alike : ∃ (b : Bool) (x y : ByteArray), (∀ w, Calls Try.prog 6 #[.string a0, .string a1] w fun e w' => e = .returned (.tuple #[.bool b, .string x, .string y]) ∧ Grown w w') ∧
        (∀ w, Calls Try.prog 7 #[.string a0, .string a1] w fun e w' => e = .returned (.tuple #[.bool b, .string x, .string y]) ∧ Grown w w') := by
      by_cases hpre : ∃ h : 0 < a0.size, (a0[0].toNat : Int) = 34
      · obtain ⟨h0, hq⟩ := hpre
        obtain ⟨r, hr⟩ : ∃ r, a0.extract 1 a0.size = r := ⟨_, rfl⟩
        have hrs : r.size = a0.size - 1 := by rw [← hr]; simp
        have hpy := pre_yes a0 h0 hq
        have hml : a0.size ≤ maxLen := w0
        by_cases hex : ∃ n, ∃ h : n < r.size, (r[n].toNat : Int) = 34 ∧ plainB (r.data.toList.take n) = true
        · obtain ⟨n, hn, hqn, hpl⟩ := hex
          refine ⟨true, r.extract (n + 1) r.size, r.extract 0 n, fun w => ?_, fun w => md_yes a0 a1 r w n h0 (by omega) hq hr (by omega) hn hqn hpl⟩
          have := zz_yes a0 a1 w n (by omega) h0 hml hpy (by rw [hr]; exact idx_found r n hn hqn hpl) (by rw [hr, plain_ext]; exact hpl)
          rw [hr, ← hrs] at this
          exact this
        · refine ⟨false, r, a1, fun w => ?_, fun w => md_no a0 a1 r w h0 (by omega) hq hr (by omega) (fun n h e1 e2 => hex ⟨n, h, e1, e2⟩)⟩
          have hge := Lib.indexByte_ge r.data.toList 34
          by_cases hneg : Lib.indexByte r.data.toList 34 < 0
          · have := zz_noend a0 a1 w _ hneg h0 hml hpy (by rw [hr])
            rw [hr] at this
            exact this
          · obtain ⟨n, hn⟩ := Int.eq_ofNat_of_zero_le (show 0 ≤ Lib.indexByte r.data.toList 34 by omega)
            have hs := Lib.indexByte_some hn
            have hlt : n < r.size := by
              have h1 := hs.1
              rw [List.getElem?_eq_some_iff] at h1
              obtain ⟨h2, _⟩ := h1
              simpa using h2
            have hqn : (r[n].toNat : Int) = 34 := by
              have h1 := hs.1
              rw [get_list r n hlt] at h1
              have e : r[n] = 34 := by simpa using h1
              rw [e]; rfl
            have hpl : plainB (r.data.toList.take n) = false := by
              cases hb : plainB (r.data.toList.take n) with
              | false => rfl
              | true => exact absurd ⟨n, hlt, hqn, hb⟩ hex
            have := zz_odd a0 a1 w n (by omega) h0 hml hpy (by rw [hr]; exact hn) (by rw [hr, plain_ext]; exact hpl)
            rw [hr] at this
            exact this
      · have hn : a0.size = 0 ∨ ∃ h : 0 < a0.size, ¬ (a0[0].toNat : Int) = 34 := by
          by_cases h : 0 < a0.size
          · exact Or.inr ⟨h, fun e => hpre ⟨h, e⟩⟩
          · exact Or.inl (by omega)
        exact ⟨false, a0, a1, fun w => zz_none a0 a1 w (pre_no a0 hn), fun w => md_none a0 a1 w hn⟩
    obtain ⟨b, x, y, hz, hm⟩ := alike
    have HZ := show Hid _ from hz
    have HM := show Hid _ from hm
    clear hz hm
    go_enter Try.func3, Try.ntmps3
    go_wp2_with (go_at_call 5; refine (bytes_yes _ _ _ hsum).mono ?_; rintro e w' ⟨rfl, rfl⟩)
    refine (HZ.out _).mono ?_
    rintro e w1 ⟨rfl, hg1⟩
    go_wp2_with fail
    refine (HM.out _).mono ?_
    rintro e w2 ⟨rfl, hg2⟩
    go_wp2
    go_ret
    exact ⟨by first | rfl | simp, grown_trans hg1 hg2⟩
  · go_enter Try.func3, Try.ntmps3
    go_wp2_with (go_at_call 5; refine (bytes_no _ _ _ w0 w1 (by omega)).mono ?_; rintro e w' ⟨rfl, rfl⟩)
    go_ret
    exact ⟨rfl, Grown.refl _⟩

/-! ### THE ROW's STEP: WRITTEN OUT: LEAVE IT -/
set_option maxRecDepth 100000 in
theorem lifted (os : Os) (started : os.Started) (H : Type) (enc : TypeId × Value → H) :
    ReturnsInHanded {} Try.checked os 3 .any (Rows.fnPlainStringMatchesOnePassModelSpec.pre6 enc Try.prog Try.f3 Rows.fnPlainStringMatchesOnePassModelRow.domain false) (Rows.fnPlainStringMatchesOnePassModelSpec.post enc Try.prog Try.f3 false true false false) := by
  refine returnsInHanded_of_change (C := Try.checked) own started (by kernel_rfl) Try.func3
    (ChangeSpec.witness6 (enc := enc) (C := Try.checked) false ⟨#[], #[.string ByteArray.empty, .string ByteArray.empty], []⟩ 8 (by kernel_rfl) (by kernel_rfl) (by kernel_rfl) (by kernel_rfl)) ?_
  intro W base args ds gs before hval0 hW hcnd _
  have hval : ∀ (j : Nat) t v, Try.f3.params[j]? = some t → args[j]? = some v → Value.okWide Try.prog W .any base t v := hval0
  have hW' := hW
  obtain ⟨p, q, hA0, hV, rfl, hfz, hnd⟩ := hW
  have hA : DataW.TrodAll enc Try.prog W 0 (fun _ => true) true Try.f3.params.toList args.toList ds p := hA0
  rw [Try.params3] at hA hval
  obtain ⟨v0, vs0, d0, ds0, p0, q0, hargs, rfl, rfl, h0, r0⟩ := trodAll_cons hA
  obtain ⟨v1, vs1, d1, ds1, p1, q1, rfl, rfl, rfl, h1, r1⟩ := trodAll_cons r0
  obtain ⟨rfl, rfl, rfl⟩ := trodAll_nil r1
  obtain rfl : args = #[v0, v1] := by cases args; simp_all
  obtain ⟨rfl, rfl⟩ := trodVars_none hV
  obtain ⟨a0, rfl, rfl, rfl, w0⟩ := open_string Try.underlying9 (hval 0 9 v0 rfl rfl) h0
  obtain ⟨a1, rfl, rfl, rfl, w1⟩ := open_string Try.underlying9 (hval 1 9 v1 rfl rfl) h1
  clear hA0 hval0
  simp only [List.append_nil] at hW'
  refine (walk a0 a1 w0 w1 W).mono fun e W' ⟨he, hg⟩ => ?_
  subst he
  exact ⟨_, rfl, post_of_same (pa := []) (pv := []) hW' (fun _ _ _ => (trodAll_cons_mk (shut_bool Try.underlying4 _) trodAll_mk0)) (fun sp _ => (trodAll_cons_mk (shut_string Try.underlying9 w0) (trodAll_cons_mk (shut_string Try.underlying9 w1) trodAll_mk0))) (fun _ _ => rfl) rfl
    (hg.frame _) hg.2.1 (ok_one (by kernel_rfl) rfl (okWide_bool_mk Try.underlying4 _))⟩

theorem over : Rows.fnPlainStringMatchesOnePassModelRow.holds Try.pinned (OpenSpec.ofChange Rows.fnPlainStringMatchesOnePassModelSpec) :=
  OpenClaim.holds_of_wide 3 Try.f3 rfl rfl rfl rfl rfl rfl rfl ⟨rfl, rfl, rfl, rfl, rfl⟩ rfl rfl rfl rfl rfl (by kernel_rfl) Try.func3 (by kernel_rfl)
    (of_decide_eq_true (by kernel_rfl)) (by unfold Func.isWrapper; first | (rw [if_pos (by decide +kernel)]; kernel_rfl) | (rw [if_neg (by decide +kernel)]; exact ⟨rfl, rfl⟩))
    (fun os started H enc _ => lifted os started H enc)

/-- ████ THE STATEMENT ████ -/
theorem proved : Rows.FnPlainStringMatchesOnePassModelSaid :=
  over
end Go.Proofs.Qxb6603870a.fnPlainStringMatchesOnePassModel
