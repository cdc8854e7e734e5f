import Derived.Test.Qxb6001367aRows
import Derived.Test.Qxb6001367aEncode
import Derived.Test.Qxb6001367aDecode
import Derived.Test.Qxb6001367aEqual
import Derived.WalkKit
import Derived.ProofKit
import Derived.OpenShut
import Derived.ShutString
import Derived.ChangeOld
import Derived.Below
namespace Go.Proofs.Qxb6001367a.fnEncodeDecodeRoundTrip
open Go.ChangeShapes Go.WideShapes Go.ChangeAt Go.RowKit
open Go.ChangeMaps (open_string shut_string)
set_option linter.unusedVariables false

theorem own : ownKnob Try.prog.godebug = none := by kernel_rfl
theorem laidOut : laidOutB Try.prog = true := by kernel_rfl

/-- WHAT THE WALK IS TOLD OF A SLICE OF INTEGERS THAT CAME IN: it is nil; or it leads to a row of 'cap' cells, the numbers 'zs' (the first 'len' are its elements, the rest its spare room), each fitting its kind. -/
def IsRow (k : IntKind) (w : World) (a : Option Addr) (len cap : Nat) (zs : List Int) : Prop :=
  (a = none ∧ len = 0 ∧ cap = 0 ∧ zs = []) ∨
  ∃ x, a = some x ∧ len ≤ cap ∧ cap ≤ maxLen ∧ zs.length = cap ∧ (∀ i, i < zs.length → w.cell? (x.add i) = some (.int k (zs.getD i 0))) ∧ ∀ n ∈ zs, (Lit.int k n).wf = true

set_option maxHeartbeats 400000 in
theorem bytes_any (a : Option Addr) (len cap : Nat) (b : Bool) (w : World) (hl : len ≤ maxLen) (h : b = decide (len ≤ 1048576)) :
    Calls Try.prog 9 #[.slice a len cap] w fun e w' => e = .returned (.bool b) ∧ w = w' := by
  unfold maxLen at hl
  by_cases h1 : len ≤ 1048576
  · obtain rfl : b = true := by rw [h]; simpa using h1
    clear h
    go_enter Try.func9, Try.ntmps9
    go_wp2
    go_ret
    exact ⟨rfl, rfl⟩
  · obtain rfl : b = false := by rw [h]; simpa using h1
    clear h
    go_enter Try.func9, Try.ntmps9
    go_wp2
    go_ret
    exact ⟨rfl, rfl⟩

set_option maxHeartbeats 400000 in
theorem enc_nil (w : World) : Calls Try.prog 22 #[.slice none 0 0] w fun e w' => e = .returned (.string ByteArray.empty) ∧ w = w' := by
  have q22 : ∀ (w : World) (a : Option Addr) (n c n' c' : Nat), (binOp .eql 22 (.slice a n c) (.slice none n' c')).run Try.prog w = .ok (.bool a.isNone) w := fun w a n c n' c' => Lib.run_eql_slice_nil w _ _ a n c n' c' Try.underlying22
  have hcv := fun (W : World) => run_convert_bytes_nil (P := Try.prog) W 22 5 Try.underlying22 Try.underlying5 0 0 9 Try.underlying9
  go_enter Try.func22, Try.ntmps22
  go_wp2_with (first | (go_at_call 25; fail) | go_in)
  refine wp_loop_rounds 1 ?_
  rw [rounds_succ]
  go_wp2_with fail
  refine wp_loop_rounds 1 ?_
  rw [rounds_succ]
  go_wp2_with fail
  refine (reverse25_empty none 0 _).mono ?_
  rintro e w3 ⟨rfl, rfl⟩
  go_wp2
  go_ret
  exact ⟨rfl, rfl⟩

theorem noprefix (s : ByteArray) (E : List Nat) (hl : E.length = s.size) (hE : ∀ d ∈ E, d < 62) (hs : ∀ k, (h : k < s.size) → s[k].toNat = ch (E.getD k 0)) (hh : E.head? ≠ some 0) : Lib.hasPrefix s.data.toList [48] = false := by
  cases hb : Lib.hasPrefix s.data.toList [48] with
  | false => rfl
  | true =>
    exfalso
    obtain ⟨⟨l⟩⟩ := s
    match l, E, hl with
    | [], [], _ => simp [Lib.hasPrefix] at hb
    | c :: l, d :: E, hl =>
      have h0 := hs 0 (by simp [ByteArray.size])
      have h1 : c.toNat = ch d := h0
      have h2 : (48 : UInt8) = c := by simpa [Lib.hasPrefix] using hb
      have h3 := ch_zero (hE d (by simp)) (by rw [← h1, ← h2]; rfl)
      exact hh (by simp [h3])

theorem nums (zs : List Int) (len : Nat) (hl : len ≤ zs.length) (hwf : ∀ n ∈ zs, (Lit.int .u8 n).wf = true) :
    ((zs.take len).map Int.toNat).length = len ∧ small ((zs.take len).map Int.toNat) ∧ ∀ i, i < len → ((((zs.take len).map Int.toNat).getD i 0 : Nat) : Int) = zs.getD i 0 := by
  have hb : ∀ n ∈ zs, 0 ≤ n ∧ n < 256 := fun n hn => by have := bounds_u8 (hwf n hn); omega
  refine ⟨by simp; omega, ?_, ?_⟩
  · intro d hd
    obtain ⟨n, hn, rfl⟩ := List.mem_map.1 hd
    have := hb n (List.mem_of_mem_take hn)
    omega
  · intro i hi
    have hiz : i < zs.length := by omega
    have := hb zs[i] (List.getElem_mem hiz)
    simp [List.getD, hi, hiz]
    omega

def IsEnc (s : ByteArray) (E L : List Nat) (n : Nat) : Prop :=
  E.length = s.size ∧ (∀ d ∈ E, d < 62) ∧ (∀ k, (h : k < s.size) → s[k].toNat = ch (E.getD k 0)) ∧ v62 E = be L ∧ E.head? ≠ some 0 ∧ s.size ≤ 8 * n
theorem enc_hide {s : ByteArray} {E L : List Nat} {n : Nat} (h1 : E.length = s.size) (h2 : ∀ d ∈ E, d < 62) (h3 : ∀ k, (h : k < s.size) → s[k].toNat = ch (E.getD k 0)) (h4 : v62 E = be L) (h5 : E.head? ≠ some 0) (h6 : s.size ≤ 8 * n) : IsEnc s E L n := ⟨h1, h2, h3, h4, h5, h6⟩
theorem dec_back (s : ByteArray) (E L : List Nat) (n : Nat) (w : World) (hn : n ≤ 4096) (hL : L.length = n) (hs : small L) (h : IsEnc s E L n) :
    Calls Try.prog 23 #[.string s, .int .i64 n] w fun e w' => e = .returned (.tuple #[.slice (some ⟨w.heap.size, 0, none⟩) n n, .bool true]) ∧ Row w' w.heap.size 0 L ∧ Below w.heap.size w w' := by
  obtain ⟨h1, h2, h3, h4, h5, h6⟩ := h
  have hlt : be L < 256 ^ n := by rw [← hL]; exact be_lt hs
  refine (dec_yes s E n w hn (by omega) h1 h2 h3 (noprefix s E h1 h2 h3 h5) (by rw [h4]; exact hlt)).mono ?_
  rintro e w' ⟨l, he, hl, hsl, hbl, hr, hb⟩
  have : l = L := be_inj hsl hs (by omega) (by rw [hbl, h4])
  subst this
  exact ⟨he, hr, hb⟩
theorem equal_at (a1 a2 : Option Addr) (c1 c2 n : Nat) (L : List Nat) (w : World) (hL : L.length = n) (hlen : n ≤ 1048576)
    (h1 : n ≠ 0 → ∃ g o, a1 = some ⟨g, o, none⟩ ∧ Row w g o L) (h2 : n ≠ 0 → ∃ g o, a2 = some ⟨g, o, none⟩ ∧ Row w g o L) :
    Calls Try.prog 13 #[.slice a1 n c1, .slice a2 n c2] w fun e w' => e = .returned (.bool true) ∧ Below w.heap.size w w' := by
  subst hL
  exact equal_yes a1 a2 c1 c2 L w hlen h1 h2

theorem row_carry {w1 w2 w3 : World} {g n : Nat} {L : List Nat} (hr : Row w1 g 0 L) (h2 : Below w1.heap.size w1 w2) (h3 : Below w2.heap.size w2 w3) (hL : L.length = n) (hn : n ≠ 0) : Row w3 g 0 L := by
  have hg := hr.block_lt (by omega)
  exact (hr.below h2 hg).below h3 (Nat.lt_of_lt_of_le hg h2.size)
theorem below4 {w w1 w2 w3 w4 : World} (h1 : Below w.heap.size w w1) (h2 : Below w1.heap.size w1 w2) (h3 : Below w2.heap.size w2 w3) (h4 : Below w3.heap.size w3 w4) : Below w.heap.size w w4 := by
  have s1 := h1.size
  have s2 := h2.size
  have s3 := h3.size
  exact ((h1.trans (h2.mono s1)).trans (h3.mono (by omega))).trans (h4.mono (by omega))

set_option maxHeartbeats 1000000 in
theorem walk (a0 : Option Addr) (len0 cap0 : Nat) (z0 : List Int) (w : World) (w0 : IsRow .u8 w a0 len0 cap0 z0) :
    Calls Try.prog 3 #[.slice a0 len0 cap0] w fun e w' => e = .returned (.bool true) ∧ Below w.heap.size w w' := by
  rcases w0 with ⟨rfl, rfl, rfl, rfl⟩ | ⟨x, rfl, hlc, hcm, hzl, hcell, hwf⟩
  · go_enter Try.func3, Try.ntmps3
    go_wp2_with (first
      | (go_at_call 9; refine (bytes_any none 0 0 true _ (Nat.zero_le _) rfl).mono ?_; rintro e w' ⟨rfl, rfl⟩)
      | (go_at_call 10; refine (clone_nil _).mono ?_; rintro e w' ⟨rfl, hw'⟩; obtain rfl := hw'.symm)
      | (go_at_call 22; refine (enc_nil _).mono ?_; rintro e w' ⟨rfl, rfl⟩)
      | (go_at_call 23; refine (dec_yes ByteArray.empty [] 0 _ (by omega) (by simp) rfl (fun _ h => by cases h) (fun k h => absurd h (by simp)) rfl (by simp [v62])).mono ?_; rintro e w2 ⟨l, rfl, hl, hs, hb, hr, hbel⟩)
      | (go_at_call 13; refine (equal_yes _ _ _ _ [] _ (by simp) (fun h => absurd rfl h) (fun h => absurd rfl h)).mono ?_; rintro e w3 ⟨rfl, hbel2⟩)
      | go_in)
    go_ret
    exact ⟨rfl, hbel.trans (hbel2.mono hbel.size)⟩
  · have hlm : len0 ≤ maxLen := Nat.le_trans hlc hcm
    by_cases h20 : len0 ≤ 1048576
    · by_cases h12 : len0 ≤ 4096
      · obtain ⟨L, hLd⟩ : ∃ L, (z0.take len0).map Int.toNat = L := ⟨_, rfl⟩
        obtain ⟨hLl, hLs, hLg⟩ := nums z0 len0 (by omega) hwf
        rw [hLd] at hLl hLs hLg
        have HC : Hid (∀ i, i < len0 → w.cell? (x.add i) = some (.int .u8 ((L.getD i 0 : Nat) : Int))) := fun i hi => by rw [hLg i hi]; exact hcell i (by omega)
        have HLl := show Hid _ from hLl
        have HLs := show Hid _ from hLs
        clear hLd hLl hLs hLg hcell hwf hzl
        go_enter Try.func3, Try.ntmps3
        go_wp2_with (first
          | (go_at_call 9; refine (bytes_any _ _ _ true _ hlm (by simpa using h20)).mono ?_; rintro e w' ⟨rfl, rfl⟩)
          | (go_at_call 10; refine (clone_some _ _ _ L _ HLl.out h20 HC.out).mono ?_; rintro e w1 ⟨rfl, hr1, hb1⟩)
          | (go_at_call 22; refine (enc_any _ _ _ _ L _ HLl.out h12 HLs.out hr1).mono ?_; rintro e w2 ⟨s, E, rfl, hEl, hE, hs, hv, hh, hss, hb2⟩; have HF := enc_hide hEl hE hs hv hh hss; clear hEl hE hs hv hh hss)
          | (go_at_call 23; refine (dec_back s E L len0 _ h12 HLl.out HLs.out HF).mono ?_; rintro e w3 ⟨rfl, hr3, hb3⟩)
          | (go_at_call 13; refine (equal_at _ _ _ _ len0 L _ HLl.out h20 (fun _ => ⟨_, _, rfl, hr3⟩) (fun hn => ⟨_, _, rfl, row_carry hr1 hb2 hb3 HLl.out hn⟩)).mono ?_; rintro e w4 ⟨rfl, hb4⟩)
          | go_in)
        go_ret
        exact ⟨rfl, below4 hb1 hb2 hb3 hb4⟩
      · go_enter Try.func3, Try.ntmps3
        go_wp2_with (go_at_call 9; refine (bytes_any _ _ _ true _ hlm (by simpa using h20)).mono ?_; rintro e w' ⟨rfl, rfl⟩)
        go_ret
        exact ⟨rfl, Below.refl _ _⟩
    · go_enter Try.func3, Try.ntmps3
      go_wp2_with (go_at_call 9; refine (bytes_any _ _ _ false _ hlm (by simpa using h20)).mono ?_; rintro e w' ⟨rfl, rfl⟩)
      go_ret
      exact ⟨rfl, Below.refl _ _⟩

/-! ### THE ROW's STEP: WRITTEN OUT: LEAVE IT -/
set_option maxRecDepth 100000 in
theorem lifted (os : Os) (started : os.Started) (H : Type) (enc : TypeId × Value → H) :
    ReturnsInHanded {} Try.checked os 3 .any (Rows.fnEncodeDecodeRoundTripSpec.pre6 enc Try.prog Try.f3 Rows.fnEncodeDecodeRoundTripRow.domain false) (Rows.fnEncodeDecodeRoundTripSpec.post enc Try.prog Try.f3 false true false false) := by
  refine returnsInHanded_of_change (C := Try.checked) own started (by kernel_rfl) Try.func3
    (ChangeSpec.witness6 (enc := enc) (C := Try.checked) false ⟨#[], #[.slice none 0 0], []⟩ 8 (by kernel_rfl) (by kernel_rfl) (by kernel_rfl) (by kernel_rfl)) ?_
  intro W base args ds gs before hval0 hW hcnd _
  have hval : ∀ (j : Nat) t v, Try.f3.params[j]? = some t → args[j]? = some v → Value.okWide Try.prog W .any base t v := hval0
  have hW' := hW
  obtain ⟨p, q, hA0, hV, rfl, hfz, hnd⟩ := hW
  have hA : DataW.TrodAll enc Try.prog W 0 (fun _ => true) true Try.f3.params.toList args.toList ds p := hA0
  rw [Try.params3] at hA hval
  obtain ⟨v0, vs0, d0, ds0, p0, q0, hargs, rfl, rfl, h0, r0⟩ := trodAll_cons hA
  obtain ⟨rfl, rfl, rfl⟩ := trodAll_nil r0
  obtain rfl : args = #[v0] := by cases args; simp_all
  obtain ⟨rfl, rfl⟩ := trodVars_none hV
  obtain ⟨a0, len0, cap0, rfl⟩ := okWide_slice Try.underlying22 (hval 0 22 v0 rfl rfl)
  have k0 := h0
  have lt0 : ∀ x ∈ p0, x.block < W.heap.size := by obtain ⟨m, hm⟩ := k0; exact DataW.trod_lt m _ _ _ hm
  obtain ⟨z0, w0⟩ : ∃ zs, IsRow .u8 W a0 len0 cap0 zs := by
    obtain ⟨fuel, hf⟩ := h0
    rcases open_ints Try.underlying22 Try.underlying5 (by kernel_rfl) hf with ⟨hcs, _⟩ | ⟨x, l, c, zs, hcs, _, hl, hm, hz, _, hcell, hwz⟩
    · simp [Value.cells] at hcs
      obtain ⟨rfl, rfl, rfl⟩ := hcs
      exact ⟨[], .inl ⟨rfl, rfl, rfl, rfl⟩⟩
    · simp [Value.cells] at hcs
      obtain ⟨rfl, rfl, rfl⟩ := hcs
      exact ⟨zs, .inr ⟨_, rfl, hl, hm, by simpa using hz, hcell, hwz⟩⟩
  clear hA0 hval0
  refine (walk a0 len0 cap0 z0 W w0).mono fun e W' ⟨he, bel⟩ => ?_
  subst he
  exact ⟨_, rfl, _, _, _, [], _, [], hW', trodAll_mk1 (shut_bool Try.underlying4 _), (trodAll_cons_mk (Below.trod laidOut (by kernel_rfl) (of_decide_eq_true (by kernel_rfl)) k0 bel lt0) trodAll_mk0), rfl, bel.frame _, fun h => by cases h⟩

theorem over : Rows.fnEncodeDecodeRoundTripRow.holds Try.pinned (OpenSpec.ofChange Rows.fnEncodeDecodeRoundTripSpec) :=
  OpenClaim.holds_of_wide 3 Try.f3 rfl rfl rfl rfl rfl rfl rfl ⟨rfl, rfl, rfl, rfl, rfl⟩ rfl rfl rfl rfl rfl (by kernel_rfl) Try.func3 (by kernel_rfl)
    (of_decide_eq_true (by kernel_rfl)) (by unfold Func.isWrapper; first | (rw [if_pos (by decide +kernel)]; kernel_rfl) | (rw [if_neg (by decide +kernel)]; exact ⟨rfl, rfl⟩))
    (fun os started H enc _ => lifted os started H enc)

/-- ████ THE STATEMENT ████ -/
theorem proved : Rows.FnEncodeDecodeRoundTripSaid := over
end Go.Proofs.Qxb6001367a.fnEncodeDecodeRoundTrip
