import Derived.Test.Qxb6603870aRows
import Derived.Test.Qxb6603870aBack
import Derived.BigQuiet
import Derived.Deep.QuietTactic
import Derived.WalkSpells
import Derived.WalkKit
import Derived.ProofKit
import Derived.OpenShut
import Derived.ShutString
namespace Go.Proofs.Qxb6603870a.fnPlainStringReadsBackQuoted
open Go.ChangeShapes Go.WideShapes Go.ChangeAt Go.RowKit
open Go.ChangeMaps (open_string shut_string)
set_option linter.unusedVariables false      -- a walk need not use every 'w<i>' (that an integer argument fits its kind)

theorem own : ownKnob Try.prog.godebug = none := by kernel_rfl

set_option maxHeartbeats 400000 in
theorem bytes_no (a b c : ByteArray) (w : World) (ha : a.size ≤ maxLen) (hb : b.size ≤ maxLen) (hc : c.size ≤ maxLen) (h : 1048576 < a.size + b.size + c.size) :
    Calls Try.prog 8 #[.string a, .string b, .string c] w fun e w' => e = .returned (.bool false) ∧ w' = w := by
  unfold maxLen at ha hb hc
  rcases (show 1048576 < a.size ∨ (a.size ≤ 1048576 ∧ 1048576 < b.size) ∨ (a.size ≤ 1048576 ∧ b.size ≤ 1048576 ∧ 1048576 < a.size + b.size) ∨ (a.size ≤ 1048576 ∧ b.size ≤ 1048576 ∧ a.size + b.size ≤ 1048576 ∧ 1048576 < c.size) ∨ (a.size ≤ 1048576 ∧ b.size ≤ 1048576 ∧ a.size + b.size ≤ 1048576 ∧ c.size ≤ 1048576) from by omega) with h1 | ⟨h1, h2⟩ | ⟨h1, h2, h3⟩ | ⟨h1, h2, h3, h4⟩ | ⟨h1, h2, h3, h4⟩
  all_goals
    go_enter Try.func8, Try.ntmps8
    go_wp2
    go_ret
    exact ⟨rfl, rfl⟩

set_option maxHeartbeats 400000 in
theorem bytes_yes (a b c : ByteArray) (w : World) (h : a.size + b.size + c.size ≤ 1048576) :
    Calls Try.prog 8 #[.string a, .string b, .string c] w fun e w' => e = .returned (.bool true) ∧ w' = w := by
  go_enter Try.func8, Try.ntmps8
  go_wp2
  go_ret
  exact ⟨rfl, rfl⟩

theorem isPlain_at (s : ByteArray) (b : Bool) (w : World) (hs : s.size ≤ maxLen) (h : plainB s.data.toList = b) :
    Calls Try.prog 9 #[.string s] w fun e w' => e = .returned (.bool b) ∧ w' = w := by
  have := isPlain_any s w hs
  rw [h] at this
  exact this

def noQ (l : List UInt8) : Bool := l.all (fun c => !(c == 34))
theorem noQ_snoc (s : ByteArray) (k : Nat) (h : k < s.size) : noQ (s.data.toList.take (k + 1)) = (noQ (s.data.toList.take k) && !(s[k] == 34)) := by
  rw [take_snoc s k h]; simp [noQ]
theorem noQ_all (s : ByteArray) (k : Nat) (h : ¬ k < s.size) (hq : noQ (s.data.toList.take k) = true) : ∀ c ∈ s.data.toList, c ≠ 34 := by
  rw [List.take_of_length_le (by simp; omega)] at hq
  unfold noQ at hq
  rw [List.all_eq_true] at hq
  intro c hc
  simpa using hq c hc
theorem ne34 (c : UInt8) (h : ¬ (c.toNat : Int) = 34) : (c == 34) = false := by
  rw [beq_eq_false_iff_ne]
  intro e; subst e; exact h rfl

set_option maxHeartbeats 400000 in
theorem walk (a0 : ByteArray) (a1 : ByteArray) (a2 : ByteArray) (w0 : a0.size ≤ maxLen) (w1 : a1.size ≤ maxLen) (w2 : a2.size ≤ maxLen) (w : World) :
    Calls Try.prog 4 #[.string a0, .string a1, .string a2] w fun e w' => e = .returned (.bool true) ∧ Grown w w' := by
  by_cases hsum : a0.size + a1.size + a2.size ≤ 1048576
  · go_enter Try.func4, Try.ntmps4
    go_wp2_with (go_at_call 8; refine (bytes_yes _ _ _ _ hsum).mono ?_; rintro e w' ⟨rfl, rfl⟩)
    go_loop [7] (fun i => ∃ k : Nat, k ≤ a0.size ∧ i = .int .i64 k ∧ noQ (a0.data.toList.take k) = true) (fun i => a0.size - (intOf i).toNat)
    case atStart => exact ⟨0, Nat.zero_le _, rfl, rfl⟩
    case round =>
      obtain ⟨k, hk, rfl, hp⟩ := hrel
      have HP : Hid (noQ (a0.data.toList.take k) = true) := hp
      clear hp
      by_cases hlt : k < a0.size
      · by_cases hq : (a0[k].toNat : Int) = 34
        · go_wp2
          go_ret
          exact ⟨rfl, Grown.refl _⟩
        · have HQ : Hid ((a0[k] == 34) = false) := ne34 _ hq
          go_wp2
          go_round
          case rel => exact ⟨k + 1, by omega, by go_num, by rw [noQ_snoc a0 k hlt, HP.out, HQ.out]; rfl⟩
          case measure => simp [intOf]; omega
      · have HA : Hid (∀ c ∈ a0.data.toList, c ≠ 34) := noQ_all a0 k hlt HP.out
        cases hpl : plainB a0.data.toList with
        | true =>
          have HL : Hid (plainB a0.data.toList = true) := hpl
          clear hpl
          go_wp2_with fail
          refine (zz_back_yes _ _ _ _ (by omega) (by omega) HA.out HL.out).mono ?_
          rintro e w' ⟨rfl, hg⟩
          go_wp2_with (go_at_call 9; refine (isPlain_at _ true _ w0 HL.out).mono ?_; rintro e w' ⟨rfl, rfl⟩)
          go_ret
          exact ⟨by first | rfl | simp, hg⟩
        | false =>
          have HL : Hid (plainB a0.data.toList = false) := hpl
          clear hpl
          go_wp2_with fail
          refine (zz_back_no _ _ _ _ (by omega) (by omega) HA.out HL.out).mono ?_
          rintro e w' ⟨rfl, hg⟩
          go_wp2_with (go_at_call 9; refine (isPlain_at _ false _ w0 HL.out).mono ?_; rintro e w' ⟨rfl, rfl⟩)
          go_ret
          exact ⟨by first | rfl | simp, hg⟩
  · go_enter Try.func4, Try.ntmps4
    go_wp2_with (go_at_call 8; refine (bytes_no _ _ _ _ w0 w1 w2 (by omega)).mono ?_; rintro e w' ⟨rfl, rfl⟩)
    go_ret
    exact ⟨rfl, Grown.refl _⟩

/-! ### THE ROW's STEP: WRITTEN OUT: LEAVE IT -/
set_option maxRecDepth 100000 in
theorem lifted (os : Os) (started : os.Started) (H : Type) (enc : TypeId × Value → H) :
    ReturnsInHanded {} Try.checked os 4 .any (Rows.fnPlainStringReadsBackQuotedSpec.pre6 enc Try.prog Try.f4 Rows.fnPlainStringReadsBackQuotedRow.domain false) (Rows.fnPlainStringReadsBackQuotedSpec.post enc Try.prog Try.f4 false true false false) := by
  refine returnsInHanded_of_change (C := Try.checked) own started (by kernel_rfl) Try.func4
    (ChangeSpec.witness6 (enc := enc) (C := Try.checked) false ⟨#[], #[.string ByteArray.empty, .string ByteArray.empty, .string ByteArray.empty], []⟩ 8 (by kernel_rfl) (by kernel_rfl) (by kernel_rfl) (by kernel_rfl)) ?_
  intro W base args ds gs before hval0 hW hcnd _
  have hval : ∀ (j : Nat) t v, Try.f4.params[j]? = some t → args[j]? = some v → Value.okWide Try.prog W .any base t v := hval0
  have hW' := hW
  obtain ⟨p, q, hA0, hV, rfl, hfz, hnd⟩ := hW
  have hA : DataW.TrodAll enc Try.prog W 0 (fun _ => true) true Try.f4.params.toList args.toList ds p := hA0
  rw [Try.params4] at hA hval
  obtain ⟨v0, vs0, d0, ds0, p0, q0, hargs, rfl, rfl, h0, r0⟩ := trodAll_cons hA
  obtain ⟨v1, vs1, d1, ds1, p1, q1, rfl, rfl, rfl, h1, r1⟩ := trodAll_cons r0
  obtain ⟨v2, vs2, d2, ds2, p2, q2, rfl, rfl, rfl, h2, r2⟩ := trodAll_cons r1
  obtain ⟨rfl, rfl, rfl⟩ := trodAll_nil r2
  obtain rfl : args = #[v0, v1, v2] := by cases args; simp_all
  obtain ⟨rfl, rfl⟩ := trodVars_none hV
  obtain ⟨a0, rfl, rfl, rfl, w0⟩ := open_string Try.underlying9 (hval 0 9 v0 rfl rfl) h0
  obtain ⟨a1, rfl, rfl, rfl, w1⟩ := open_string Try.underlying9 (hval 1 9 v1 rfl rfl) h1
  obtain ⟨a2, rfl, rfl, rfl, w2⟩ := open_string Try.underlying9 (hval 2 9 v2 rfl rfl) h2
  clear hA0 hval0
  simp only [List.append_nil] at hW'
  refine (walk a0 a1 a2 w0 w1 w2 W).mono fun e W' ⟨he, hg⟩ => ?_
  subst he
  exact ⟨_, rfl, post_of_same (pa := []) (pv := []) hW' (fun _ _ _ => (trodAll_cons_mk (shut_bool Try.underlying4 _) trodAll_mk0)) (fun sp _ => (trodAll_cons_mk (shut_string Try.underlying9 w0) (trodAll_cons_mk (shut_string Try.underlying9 w1) (trodAll_cons_mk (shut_string Try.underlying9 w2) trodAll_mk0)))) (fun _ _ => rfl) rfl
    (hg.frame _) hg.2.1 (ok_one (by kernel_rfl) rfl (okWide_bool_mk Try.underlying4 _))⟩

theorem over : Rows.fnPlainStringReadsBackQuotedRow.holds Try.pinned (OpenSpec.ofChange Rows.fnPlainStringReadsBackQuotedSpec) :=
  OpenClaim.holds_of_wide 4 Try.f4 rfl rfl rfl rfl rfl rfl rfl ⟨rfl, rfl, rfl, rfl, rfl⟩ rfl rfl rfl rfl rfl (by kernel_rfl) Try.func4 (by kernel_rfl)
    (of_decide_eq_true (by kernel_rfl)) (by unfold Func.isWrapper; first | (rw [if_pos (by decide +kernel)]; kernel_rfl) | (rw [if_neg (by decide +kernel)]; exact ⟨rfl, rfl⟩))
    (fun os started H enc _ => lifted os started H enc)

/-- ████ THE STATEMENT ████ -/
theorem proved : Rows.FnPlainStringReadsBackQuotedSaid :=
  over
end Go.Proofs.Qxb6603870a.fnPlainStringReadsBackQuoted
