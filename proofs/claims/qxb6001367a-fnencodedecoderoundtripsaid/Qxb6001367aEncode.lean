import Derived.Test.Qxb6001367aSlices
import Derived.Test.Qxb6001367aDigits
import Derived.Laws.BytesArg
import Derived.Laws.BitsAllLaws
namespace Go.Proofs.Qxb6001367a
open Go.RowKit

theorem or_acc (r d : Nat) (hr : r < 62) (hd : d < 256) : bits .or .i64 ((r : Int) * 256) (d : Int) = (r : Int) * 256 + (d : Int) := by
  have hj : r * 256 ||| d = r * 256 + d := nat_join8 _ _ (by omega) hd
  rw [show ((r : Int) * 256) = ((r * 256 : Nat) : Int) from by omega]
  have h1 : (BitVec.ofInt 64 ((r * 256 : Nat) : Int)).toNat = r * 256 := by
    rw [BitVec.ofInt_natCast, BitVec.toNat_ofNat]; exact Nat.mod_eq_of_lt (by omega)
  have h2 : (BitVec.ofInt 64 (d : Int)).toNat = d := by
    rw [BitVec.ofInt_natCast, BitVec.toNat_ofNat]; exact Nat.mod_eq_of_lt (by omega)
  show IntKind.i64.wrap ((BitVec.ofInt 64 ((r * 256 : Nat) : Int) ||| BitVec.ofInt 64 (d : Int)).toNat : Int) = _
  rw [BitVec.toNat_or, h1, h2, hj, IntKind.wrap_i64]
  omega

def lenOf : Value → Nat | .slice _ n _ => n | _ => 0
def chv (E : List Nat) : List Value := (E.map ch).map (fun (x : Nat) => Value.int .u8 (x : Int))

/-- what holds of n and of digits at the head of the outer loop -/
def Enc (B base g V n0 : Nat) (w wr : World) (off : Nat) (N E : List Nat) (v4 : Value) : Prop :=
  Row wr g off N ∧ small N ∧ wr.ownsRow base 5 1 v4 E.length (chv E.reverse) ∧ (E = [] → v4 = .slice none 0 0) ∧ (∀ d ∈ E, d < 62) ∧ V = be N * 62 ^ E.length + v62 E ∧ (be N = 0 → E.head? ≠ some 0) ∧
    E.length ≤ 8 * n0 ∧ B ≤ g ∧ g < base ∧ base ≤ wr.heap.size ∧ Below B w wr

/-- what holds in the middle of the division -/
def Mid (B base g : Nat) (w wi : World) (off : Nat) (N E q : List Nat) (i r : Nat) (v4 : Value) : Prop :=
  Row wi g off (q ++ N.drop i) ∧ q.length = i ∧ small q ∧ be q * 62 + r = be (N.take i) ∧ wi.ownsRow base 5 1 v4 E.length (chv E.reverse) ∧ base ≤ wi.heap.size ∧ Below B w wi

theorem mid_len {N q : List Nat} {len i : Nat} (hN : N.length = len) (hq : q.length = i) (hlt : i < len) : i < (q ++ N.drop i).length := by simp; omega
theorem mid_d {N q : List Nat} {len i d : Nat} (hN : N.length = len) (hq : q.length = i) (hlt : i < len) (hd : (q ++ N.drop i).getD i 0 = d) : ∃ h : i < N.length, d = N[i] := by
  refine ⟨by omega, ?_⟩
  rw [← hd, List.getD, List.getElem?_append_right (by omega), hq, Nat.sub_self, List.getElem?_drop]
  simp [show i < N.length by omega]
theorem mid_start {B base g V n0 off : Nat} {w wr : World} {N E : List Nat} {v4 : Value} (h : Enc B base g V n0 w wr off N E v4) : Mid B base g w wr off N E [] 0 0 v4 := by
  obtain ⟨h1, h2, h3, h4, h5, h6, h7, h8, h9, h10, h11, h12⟩ := h
  exact ⟨by simpa using h1, rfl, small_nil, by simp [be_nil], h3, h11, h12⟩
theorem mid_step {B base g off i r d len : Nat} {w wr : World} {N E q : List Nat} {v4 : Value} (h : Mid B base g w wr off N E q i r v4) (hN : N.length = len) (hlt : i < len) (hd : (q ++ N.drop i).getD i 0 = d) (hs : small N) (hr : r < 62) (hB : B ≤ g) (hg : g < base) :
    Mid B base g w (wr.setCell ⟨g, off + i, none⟩ (.int .u8 (((r : Int) * 256 + (d : Int)) / 62))) off N E (q ++ [(r * 256 + d) / 62]) (i + 1) ((r * 256 + d) % 62) v4 := by
  obtain ⟨h1, h2, h3, h4, h5, h6, h7⟩ := h
  obtain ⟨hi, hde⟩ := mid_d hN h2 hlt hd
  have hd256 : d < 256 := by rw [hde]; exact small_get hs i hi
  have ev : (((r : Int) * 256 + (d : Int)) / 62) = (((r * 256 + d) / 62 : Nat) : Int) := by omega
  rw [ev]
  refine ⟨?_, by simp [h2], small_snoc h3 (by omega), ?_, ownsRow_setCell_below h5 hg _, by simpa [World.setCell] using h6, h7.setCell hB _⟩
  · have hset := h1.set i ((r * 256 + d) / 62) (mid_len hN h2 hlt)
    have e : (q ++ N.drop i).set i ((r * 256 + d) / 62) = (q ++ [(r * 256 + d) / 62]) ++ N.drop (i + 1) := by
      rw [List.set_append_right i _ (by omega), h2, Nat.sub_self, List.drop_eq_getElem_cons hi, List.set_cons_zero, List.append_assoc]
      rfl
    rw [e] at hset
    exact hset
  · rw [be_snoc, List.take_succ_eq_append_getElem hi, be_snoc, ← hde]
    exact div_step _ _ _ _ h4

theorem ch_get (r : Nat) (h : r < b62.size) : (b62[r]).toNat = ch r := by
  unfold ch
  have h' : r < b62.data.toList.length := h
  rw [List.getD, List.getElem?_map, List.getElem?_eq_getElem h']
  rfl
theorem chv_snoc (E : List Nat) (r : Nat) : chv (r :: E).reverse = chv E.reverse ++ [.int .u8 ((ch r : Nat) : Int)] := by simp [chv]
theorem head_pos {N : List Nat} {x : Nat} (h : N.getD 0 0 = x) (hx : x ≠ 0) : 0 < be N := by
  cases N with
  | nil => simp at h; omega
  | cons d l =>
    have : d = x := by simpa using h
    subst this
    exact be_pos hx
theorem len_bound {V n0 b k t : Nat} (hV : V < 256 ^ n0) (h : V = b * 62 ^ k + t) (hb : 0 < b) : k < 8 * n0 := by
  have h1 : 62 ^ k ≤ b * 62 ^ k := Nat.le_mul_of_pos_left _ hb
  have h2 : 2 ^ k ≤ 62 ^ k := Nat.pow_le_pow_left (by omega) _
  have h3 : 256 ^ n0 = 2 ^ (8 * n0) := by rw [show (256 : Nat) = 2 ^ 8 from rfl, ← Nat.pow_mul]
  have h4 : 2 ^ k < 2 ^ (8 * n0) := by rw [← h3]; omega
  exact (Nat.pow_lt_pow_iff_right (by omega)).1 h4
theorem enc_next {B base g V n0 off len r x : Nat} {w wo wr w2 : World} {N E q : List Nat} {v4 v' : Value} (hE : Enc B base g V n0 w wo off N E v4) (hM : Mid B base g w wr off N E q len r v4) (hN : N.length = len) (hr : r < 62) (hx : N.getD 0 0 = x) (hx0 : x ≠ 0) (hV : V < 256 ^ n0) (o : Obj)
    (hown : w2.ownsRow base 5 1 v' (E.length + 1) (chv E.reverse ++ [.int .u8 ((ch r : Nat) : Int)])) (hgr : (wr.alloc o).grownBy w2 v4.ownBlock) :
    Enc B base g V n0 w w2 off q (r :: E) v' ∧ be q < be N ∧ q.length = len := by
  obtain ⟨e1, e2, e3, e4, e5, e6, e7, e8, e9, e10, e11, e12⟩ := hE
  obtain ⟨m1, m2, m3, m4, m5, m6, m7⟩ := hM
  have hpos := head_pos hx hx0
  rw [List.take_of_length_le (by omega)] at m4
  rw [List.drop_of_length_le (by omega), List.append_nil] at m1
  have hown4 := (m5.alloc o).lt
  refine ⟨⟨?_, m3, ?_, (fun h => by cases h), ?_, ?_, ?_, ?_, e9, e10, ?_, ?_⟩, by omega, m2⟩
  · refine (m1.alloc o).grown hgr ?_
    intro h
    have := hown4 g h.symm
    omega
  · rw [chv_snoc]; exact hown
  · intro d hd
    rcases List.mem_cons.1 hd with h | h
    · omega
    · exact e5 d h
  · rw [v62_cons, List.length_cons, Nat.pow_succ, e6, ← m4, Nat.add_mul, Nat.mul_comm (62 ^ E.length) 62, ← Nat.mul_assoc]
    omega
  · intro hq
    have : r ≠ 0 := by omega
    simpa using this
  · have := len_bound hV e6 hpos
    simp only [List.length_cons]; omega
  · have := hgr.size
    have h2 : (wr.alloc o).heap.size = wr.heap.size + 1 := by simp
    omega
  · have hb : Below B w (wr.alloc o) := m7.alloc (by omega) o
    refine hb.grown hgr (by have h2 : (wr.alloc o).heap.size = wr.heap.size + 1 := by simp
                            omega) ?_
    intro k hk
    have := hown4 k hk
    omega

theorem enc_strip {B base g V n0 off len : Nat} {w wr : World} {N E : List Nat} {v4 : Value} (h : Enc B base g V n0 w wr off N E v4) (hN : N.length = len) (hx : N.getD 0 0 = 0) :
    Enc B base g V n0 w wr (off + 1) (N.drop 1) E v4 ∧ be (N.drop 1) = be N ∧ (N.drop 1).length = len - 1 ∧ (len = 1 → Enc B base g V n0 w wr off [] E v4 ∧ be [] = be N) := by
  have hb : be (N.drop 1) = be N := by
    cases N with
    | nil => rfl
    | cons d l =>
      have : d = 0 := by simpa using hx
      subst this
      rw [be_zero_cons]; rfl
  obtain ⟨e1, e2, e3⟩ := h
  refine ⟨⟨e1.drop 1, small_drop e2 1, by rw [hb]; exact e3⟩, hb, by simp [hN], ?_⟩
  intro h1
  have hn : N.drop 1 = [] := List.drop_of_length_le (by omega)
  rw [hn] at hb
  exact ⟨⟨Row.nil _ _ _, small_nil, by rw [hb]; exact e3⟩, hb⟩
theorem enc_start {g : Nat} {w w1 : World} {L : List Nat} {n0 : Nat} (hr : Row w1 g 0 L) (hs : small L) (hb : Below w.heap.size w w1) (h3 : w.heap.size ≤ g) (h4 : g < w1.heap.size) :
    Enc w.heap.size w1.heap.size g (be L) n0 w w1 0 L [] (.slice none 0 0) :=
  ⟨hr, hs, World.ownsRow_nil _ _ _ _, fun _ => rfl, (fun _ h => by cases h), by simp [v62], (fun _ h => by cases h), Nat.zero_le _, h3, h4, Nat.le_refl _, hb⟩
theorem enc_digits {B base g V n0 off : Nat} {w wr : World} {N E : List Nat} {v4 : Value} (h : Enc B base g V n0 w wr off N E v4) (hE : E ≠ []) :
    ∃ gd cap, v4 = .slice (some ⟨gd, 0, none⟩) E.length cap ∧ base ≤ gd ∧ Row wr gd 0 (E.reverse.map ch) := by
  obtain ⟨e1, e2, e3, e4⟩ := h
  have e3' := e3
  rcases e3.2 with ⟨_, h0⟩ | ⟨gd, cap, cur, hv, hbg, hg, hnc, hcm, _⟩
  · exact absurd (List.length_eq_zero_iff.1 h0) hE
  · exact ⟨gd, cap, hv, hbg, Row.owned (by rw [← hv]; exact e3')⟩
def encNums (E : List Nat) : List Int := (E.map ch).map (fun (x : Nat) => (x : Int))
def encStr (E : List Nat) : ByteArray := strOfNums (encNums E)
theorem encStr_size (E : List Nat) : (encStr E).size = E.length := by simp [encStr, encNums, strOfNums_size]
theorem encStr_get (E : List Nat) (hE : ∀ d ∈ E, d < 62) (k : Nat) (h : k < (encStr E).size) : (encStr E)[k].toNat = ch (E.getD k 0) := by
  have hk : k < E.length := by rw [encStr_size] at h; exact h
  have e : (encStr E)[k] = (encStr E).data.toList[k]'(by simpa using h) := by simp; rfl
  rw [e]
  have h2 : (encStr E).data.toList = E.map (fun d => UInt8.ofNat (ch d)) := by
    simp [encStr, encNums, strOfNums_data]
  have h3 : (encStr E).data.toList[k]'(by simpa using h) = UInt8.ofNat (ch E[k]) := by
    simp only [h2, List.getElem_map]
  rw [h3]
  have h4 : ch E[k] < 256 := ch_lt (hE _ (List.getElem_mem hk))
  have h5 : E.getD k 0 = E[k] := by simp [List.getD, hk]
  rw [h5, UInt8.toNat_ofNat']
  omega

theorem enc_cells {w : World} {gd m : Nat} {E : List Nat} (h : Row w gd 0 (E.reverse.map ch).reverse) (hm : E.length = m) :
    ∀ i, i < m → w.cell? ⟨gd, 0 + i, none⟩ = some (.int .u8 ((encNums E).getD i 0)) := by
  have e : (E.reverse.map ch).reverse = E.map ch := by rw [← List.map_reverse, List.reverse_reverse]
  rw [e] at h
  intro i hi
  have hi' : i < E.length := by omega
  rw [h.at i (by simpa using hi')]
  simp [encNums, List.getD, hi']

set_option maxHeartbeats 1000000 in
theorem enc_any (g0 o0 n0 c0 : Nat) (L : List Nat) (w : World) (hL : L.length = n0) (hn : n0 ≤ 4096) (hsm : small L) (hr : Row w g0 o0 L) :
    Calls Try.prog 22 #[.slice (some ⟨g0, o0, none⟩) n0 c0] w fun e w' => ∃ (s : ByteArray) (E : List Nat), e = .returned (.string s) ∧ E.length = s.size ∧ (∀ d ∈ E, d < 62) ∧ (∀ k, (h : k < s.size) → s[k].toNat = ch (E.getD k 0)) ∧ v62 E = be L ∧ E.head? ≠ some 0 ∧ s.size ≤ 8 * n0 ∧ Below w.heap.size w w' := by
  obtain ⟨i0, hi, hz0, hz1, hz2⟩ := info_parts Try.info5
  have HL := show Hid _ from hL
  have HSM := show Hid _ from hsm
  have HR := show Hid _ from hr
  have HVL := show Hid _ from (show be L < 256 ^ n0 by rw [← hL]; exact be_lt hsm)
  clear hL hsm hr
  go_enter Try.func22, Try.ntmps22
  go_wp2_with (go_at_call 24; refine (clone24 _ _ _ _ L _ HL.out (by omega) HR.out).mono ?_; rintro e w1 ⟨g, cap, rfl, h1, h2, h3, h4, hr1, hb1⟩)
  go_loopg [3, 4] (be L) (fun gk v3 v4 wr => ∃ (off len cap : Nat) (N E : List Nat), v3 = .slice (some ⟨g, off, none⟩) len cap ∧ N.length = len ∧ len ≤ n0 ∧ len ≤ cap ∧ cap ≤ maxLen ∧ be N ≤ gk ∧ Enc w.heap.size w1.heap.size g (be L) n0 w wr off N E v4)
  case atStart => exact ⟨0, n0, cap, L, [], rfl, HL.out, Nat.le_refl _, h1, h2, Nat.le_refl _, enc_start hr1 HSM.out hb1 h3 h4⟩
  case round =>
    obtain ⟨off, len, cap1, N, E, rfl, hNl, hln, hlc, hcm, hgk, henc⟩ := hrel
    unfold maxLen at hcm
    have HE := show Hid _ from henc
    have HNl := show Hid _ from hNl
    have HGK := show Hid _ from hgk
    clear henc hNl hgk
    go_wp2
    go_loop [3] (fun v => ∃ (off len cap : Nat) (N : List Nat), v = .slice (some ⟨g, off, none⟩) len cap ∧ N.length = len ∧ len ≤ n0 ∧ len ≤ cap ∧ cap ≤ 9223372036854775807 ∧ be N ≤ gk ∧ Enc w.heap.size w1.heap.size g (be L) n0 w wr off N E u4) (fun v => lenOf v)
    case atStart => exact ⟨off, len, cap1, N, rfl, HNl.out, hln, hlc, by omega, HGK.out, HE.out⟩
    case round =>
      clear HE HNl HGK hln hlc hcm
      obtain ⟨off, len, cap2, N, rfl, hNl, hln, hlc, hcm, hgk, henc⟩ := hrel
      have HE := show Hid _ from henc
      have HNl := show Hid _ from hNl
      have HGK := show Hid _ from hgk
      clear henc hNl hgk
      by_cases hl0 : len = 0
      · subst hl0
        have hN0 : N = [] := List.length_eq_zero_iff.1 HNl.out
        have hVE : be L = v62 E := by have := HE.out.2.2.2.2.2.1; rw [hN0, be_nil] at this; omega
        have hhd : E.head? ≠ some 0 := HE.out.2.2.2.2.2.2.1 (by rw [hN0]; rfl)
        have HF := show Hid _ from (show (∀ d ∈ E, d < 62) ∧ v62 E = be L ∧ E.head? ≠ some 0 ∧ E.length ≤ 8 * n0 ∧ Below w.heap.size w wr from ⟨HE.out.2.2.2.2.1, hVE.symm, hhd, HE.out.2.2.2.2.2.2.2.1, HE.out.2.2.2.2.2.2.2.2.2.2.2⟩)
        clear hN0 hVE hhd
        by_cases hEn : E = []
        · have hv : u4 = .slice none 0 0 := HE.out.2.2.2.1 hEn
          have HEn := show Hid _ from hEn
          clear hEn
          have hcv := fun (W : World) => run_convert_bytes_nil (P := Try.prog) W 22 5 Try.underlying22 Try.underlying5 0 0 9 Try.underlying9
          go_wp2_with fail
          refine (reverse25_empty none 0 _).mono ?_
          rintro e w3 ⟨rfl, rfl⟩
          go_wp2
          go_ret
          have := HF.out
          refine ⟨ByteArray.empty, E, rfl, ?_, this.1, ?_, this.2.1, this.2.2.1, ?_, this.2.2.2.2⟩
          · rw [HEn.out]; rfl
          · intro k h; simp at h
          · simp
        · obtain ⟨gd, capd, hv, hbg, hrd⟩ := enc_digits HE.out hEn
          have HRD := show Hid _ from hrd
          have h1E : 1 ≤ E.length := by have := mt List.length_eq_zero_iff.1 hEn; omega
          have hEl : E.length ≤ 1048576 := by have := HF.out.2.2.2.1; omega
          have hgd : w.heap.size ≤ gd := by omega
          obtain ⟨m, hm⟩ : ∃ m, E.length = m := ⟨_, rfl⟩
          rw [hm] at hv h1E hEl
          have HM := show Hid _ from hm
          clear hEn hrd hm
          go_wp2_with fail
          refine (reverse25 gd m capd (E.reverse.map ch) _ (by have := HM.out; simpa using this) hEl h1E HRD.out w.heap.size hgd).mono ?_
          rintro e w3 ⟨rfl, hr3, hb3⟩
          have hcv := run_convert_bytes_arg (P := Try.prog) w3 22 5 Try.underlying22 Try.underlying5 gd 0 m capd (encNums E) (by have := HM.out; simpa [encNums] using this) (enc_cells hr3 HM.out) 9 Try.underlying9
          have HR3 := show Hid _ from hr3
          clear hr3
          go_wp2
          go_ret
          have hf := HF.out
          refine ⟨encStr E, E, rfl, (encStr_size E).symm, hf.1, encStr_get E hf.1, hf.2.1, hf.2.2.1, ?_, hf.2.2.2.2.trans hb3⟩
          rw [encStr_size]; exact hf.2.2.2.1
      · obtain ⟨x, hx⟩ : ∃ x, N.getD 0 0 = x := ⟨_, rfl⟩
        have hcx := HE.out.1.at 0 (by have := HNl.out; omega)
        rw [hx, Nat.add_zero] at hcx
        have HX := show Hid _ from hx
        clear hx
        have hlp : (0 : Int) < (len : Int) := by omega
        by_cases hx0 : x = 0
        · subst hx0
          by_cases hc1 : cap2 = 1
          · subst hc1
            have HS := show Hid _ from enc_strip HE.out HNl.out HX.out
            have hl1 : len = 1 := by omega
            subst hl1
            go_wp2
            go_round
            case rel => exact ⟨off, 0, 0, [], rfl, rfl, by omega, by omega, by omega, by have := (HS.out.2.2.2 rfl).2; have := HGK.out; omega, (HS.out.2.2.2 rfl).1⟩
            case measure => simp [lenOf]
          · have HS := show Hid _ from enc_strip HE.out HNl.out HX.out
            go_wp2
            go_round
            case rel => exact ⟨off + 1, len - 1, cap2 - 1, N.drop 1, rfl, HS.out.2.2.1, by omega, by omega, by omega, by have := HS.out.2.1; have := HGK.out; omega, HS.out.1⟩
            case measure => simp [lenOf]; omega
        · have hxz : ((x : Int) == 0) = false := beq_eq_false_iff_ne.2 (by omega)
          go_wp2_with fail
          go_loopw [5, 27] (fun vr vi wi => ∃ (i r : Nat) (q : List Nat), i ≤ len ∧ vr = .int .i64 r ∧ vi = .int .i64 i ∧ r < 62 ∧ Mid w.heap.size w1.heap.size g w wi off N E q i r u4) (fun _ vi _ => len - (intOf vi).toNat)
          case atStart => exact ⟨0, 0, [], Nat.zero_le _, rfl, rfl, by omega, mid_start HE.out⟩
          case round =>
            obtain ⟨i, r, q, hil, rfl, rfl, hr62, hmid⟩ := hrel
            have HM := show Hid _ from hmid
            clear hmid
            by_cases hlt : i < len
            · obtain ⟨d, hd⟩ : ∃ d, (q ++ N.drop i).getD i 0 = d := ⟨_, rfl⟩
              have hql : i < (q ++ N.drop i).length := mid_len HNl.out HM.out.2.1 hlt
              have hcd := HM.out.1.at i hql
              have hfd := HM.out.1.free i hql
              rw [hd] at hcd
              have hd256 : d < 256 := by
                obtain ⟨h, e⟩ := mid_d HNl.out HM.out.2.1 hlt hd
                rw [e]; exact small_get HE.out.2.1 i h
              have hor := or_acc r d hr62 hd256
              have HM2 := show Hid _ from mid_step HM.out HNl.out hlt hd HE.out.2.1 hr62 HE.out.2.2.2.2.2.2.2.2.1 HE.out.2.2.2.2.2.2.2.2.2.1
              clear hql hd
              go_wp2
              go_roundw
              case rel => exact ⟨i + 1, _, _, by omega, by go_num, by go_num, by omega, HM2.out⟩
              case measure => simp [intOf]; omega
            · obtain rfl : i = len := by omega
              have hown := HM.out.2.2.2.2.1
              go_wp2_with (at_builtin; refine wpList_append_own _ rfl _ _ 22 rfl w1.heap.size 5 i0 (.int .u8 0) 1 1 Try.underlying22 hi hz0 hz1 hz2 rfl (by decide) _ _ _ rfl (hown.alloc _) ⟨wr.heap.size, 0, none⟩ 1 1 [.int .u8 ((ch r : Nat) : Int)] rfl rfl ?c1 ?c2 ?c3 ?c4 ?c5 ?_)
              case c1 =>
                intro j u hj
                match j, hj with
                | 0, hj =>
                  simp only [List.getElem?_cons_zero, Option.some.injEq] at hj
                  subst hj
                  rw [Addr.add_lit]
                  refine (World.cell?_alloc_new wr _ 5 0).trans ?_
                  have hb : r < b62.size := by show r < 62; omega
                  have := ch_get r hb
                  simp only [List.getElem?_toArray, List.getElem?_cons_zero]
                  rw [← this]
              case c2 => intro u hu; simp at hu; subst hu; rfl
              case c3 => unfold maxLen; have := HE.out.2.2.2.2.2.2.2.1; omega
              case c4 => have := HE.out.2.2.2.2.2.2.2.1; omega
              case c5 => have := HM.out.2.2.2.2.2.1; simp; omega
              intro v' w2 hown2 hgrow hnil
              have HN := show Hid _ from enc_next HE.out HM.out HNl.out hr62 HX.out hx0 HVL.out _ hown2 hgrow
              clear hown2 hgrow hnil hown
              go_wp2
              go_roundg (be q)
              case measure => have := HN.out.2.1; have := HGK.out; omega
              case rel => exact ⟨off, i, cap2, q, r :: E, rfl, HN.out.2.2, by omega, by omega, by unfold maxLen; omega, Nat.le_refl _, HN.out.1⟩
end Go.Proofs.Qxb6001367a
