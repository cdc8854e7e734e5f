import Derived.Test.Qxb6002681aRound
import Derived.Test.Qxb6002681aOcc
namespace Go.Proofs.Qxb6002681a
open Go.RowKit

theorem nums_byte (L : List UInt8) : ∀ x ∈ numsOf L, 0 ≤ x ∧ x < 256 := by
  intro x hx
  obtain ⟨b, _, rfl⟩ := List.mem_map.1 hx
  have := b.toNat_lt
  omega
theorem nums_len (L : List UInt8) : (numsOf L).length = L.length := by simp [numsOf]
theorem at_iff (L : List UInt8) (i : Nat) : At L i ↔ Occ L [13, 10] i := by
  unfold At Occ
  constructor
  · rintro ⟨h1, h2, h3⟩
    refine ⟨show i + 2 ≤ _ by omega, fun t ht => ?_⟩
    match t, ht with
    | 0, _ => exact h2
    | 1, _ => exact h3
  · rintro ⟨h1, h2⟩
    have h1' : i + 2 ≤ L.length := h1
    exact ⟨by omega, h2 0 (by simp), h2 1 (by simp)⟩

/-- bytes.HasPrefix of a row and a constant -/
theorem hp_at (g off n c g2 : Nat) (L sub : List UInt8) (k : Nat) (b : Bool) (w : World) (hL : L.length = n) (hk : sub.length = k) (hnc : n ≤ c) (h1 : Cells w (some ⟨g, off, none⟩) L) (h2 : Cells w (some ⟨g2, 0, none⟩) sub) (hb : Lib.hasPrefix L sub = b) :
    Calls Try.prog 33 #[.slice (some ⟨g, off, none⟩) n c, .slice (some ⟨g2, 0, none⟩) k k] w fun e w' => e = .returned (.bool b) ∧ w = w' := by
  have cv : ∀ (a : Addr) (M : List UInt8), Cells w (some a) M → ∀ i, i < M.length → w.cell? (a.add i) = some (.int .u8 ((numsOf M).getD i 0)) := by
    intro a M hM i hi
    obtain ⟨g', o', ha, hc⟩ := hM (by omega)
    obtain rfl := Option.some.inj ha
    rw [Addr.add_lit, nums_get M i hi]
    exact hc i hi
  have h := Try.bytes_HasPrefix_all (some ⟨g, off, none⟩) (some ⟨g2, 0, none⟩) n c k k (numsOf L) (numsOf sub) w (by rw [nums_len, hL]) (by rw [nums_len, hk]) hnc
    (Lib.BytesIn.of_cells (fun i hi => cv _ L h1 i (by omega))) (Lib.BytesIn.of_cells (fun i hi => cv _ sub h2 i (by omega)))
  rw [bytes_nums, bytes_nums, hb] at h
  exact h.mono fun e w' ⟨h1, h2⟩ => ⟨h1, h2.symm⟩

/-- bytes.Index of a row and a constant -/
theorem ix_at (g off n c g2 : Nat) (L sub : List UInt8) (k : Nat) (i m : Int) (w : World) (hL : L.length = n) (hk : sub.length = k) (hnc : n ≤ c) (hn : n ≤ 4194304) (hkk : k ≤ 4) (h1 : Cells w (some ⟨g, off, none⟩) L) (h2 : Cells w (some ⟨g2, 0, none⟩) sub) (hm : w.cell? ⟨0, 0, none⟩ = some (.int .i64 m)) (hb : Lib.index L sub = i) :
    Calls Try.prog 30 #[.slice (some ⟨g, off, none⟩) n c, .slice (some ⟨g2, 0, none⟩) k k] w fun e w' => e = .returned (.int .i64 i) ∧ ∃ q, w' = w.drewN q := by
  have cv : ∀ (a : Addr) (M : List UInt8), Cells w (some a) M → ∀ i, i < M.length → w.cell? (a.add i) = some (.int .u8 ((numsOf M).getD i 0)) := by
    intro a M hM i hi
    obtain ⟨g', o', ha, hc⟩ := hM (by omega)
    obtain rfl := Option.some.inj ha
    rw [Addr.add_lit, nums_get M i hi]
    exact hc i hi
  have h := Try.bytes_Index_at ⟨g, off, none⟩ ⟨g2, 0, none⟩ n c k k (numsOf L) (numsOf sub) m w (by rw [nums_len, hL]) (by rw [nums_len, hk]) (nums_byte L) (nums_byte sub)
    (fun i hi => cv _ L h1 i (by omega)) (fun i hi => cv _ sub h2 i (by omega)) hnc (by omega) (by omega) hm
  rw [bytes_nums, bytes_nums, hb] at h
  exact h

theorem crlf2_const (w : World) : Cells (w.alloc (.cells #[.int .u8 13, .int .u8 10, .int .u8 13, .int .u8 10] 5 (4, 5))) (some ⟨w.heap.size, 0, none⟩) [13, 10, 13, 10] := by
  intro _
  refine ⟨_, 0, rfl, fun i hi => ?_⟩
  rw [Nat.zero_add, World.cell?_alloc_mark]
  match i, hi with
  | 0, _ => rfl
  | 1, _ => rfl
  | 2, _ => rfl
  | 3, _ => rfl

/-- CR LF CR LF stands at p -/
abbrev E4 (L : List UInt8) (p : Nat) : Prop := Occ L [13, 10, 13, 10] p
/-- what HeadEnd finds -/
def HE (L : List UInt8) (s : Nat) (e : Int) : Prop :=
  (∃ k, s = 2 * k) ∧ s ≤ L.length ∧ (∀ j, 2 * j < s → At L (2 * j)) ∧ ¬ At L s ∧
  ((e = -1 ∧ ∀ p, s ≤ p → ¬ E4 L p) ∨ ∃ t : Nat, e = (s : Int) + (t : Int) + 4 ∧ E4 L (s + t) ∧ ∀ p, s ≤ p → p < s + t → ¬ E4 L p)

theorem he_end {L : List UInt8} {n k : Nat} (hL : L.length = n) (hk : n = 2 * k) (hp : ∀ j, 2 * j < n → At L (2 * j)) : HE L n (-1) := by
  refine ⟨⟨k, hk⟩, by omega, hp, ?_, Or.inl ⟨rfl, ?_⟩⟩
  · intro h; have := h.1; omega
  · intro p hp h
    have h1 : p + 4 ≤ L.length := h.1
    omega
theorem he_none {L : List UInt8} {n s k : Nat} (hL : L.length = n) (hs : s ≤ n) (hk : s = 2 * k) (hp : ∀ j, 2 * j < s → At L (2 * j)) (hat : ¬ At L s) (hno : ∀ j, ¬ Occ (L.drop s) [13, 10, 13, 10] j) : HE L s (-1) := by
  refine ⟨⟨k, hk⟩, by omega, hp, hat, Or.inl ⟨rfl, ?_⟩⟩
  intro p hp h
  apply hno (p - s)
  rw [occ_drop L _ s _ (by omega), show s + (p - s) = p from by omega]
  exact h
theorem he_some {L : List UInt8} {n s k t : Nat} (hL : L.length = n) (hs : s ≤ n) (hk : s = 2 * k) (hp : ∀ j, 2 * j < s → At L (2 * j)) (hat : ¬ At L s) (hoc : Occ (L.drop s) [13, 10, 13, 10] t) (hno : ∀ j, j < t → ¬ Occ (L.drop s) [13, 10, 13, 10] j) : HE L s ((s : Int) + (t : Int) + 4) := by
  refine ⟨⟨k, hk⟩, by omega, hp, hat, Or.inr ⟨t, rfl, (occ_drop L _ s _ (by omega)).1 hoc, ?_⟩⟩
  intro p hp hpt h
  apply hno (p - s) (by omega)
  rw [occ_drop L _ s _ (by omega), show s + (p - s) = p from by omega]
  exact h
theorem Row.drop' {w : World} {g : Nat} {L : List UInt8} (h : Row w g 0 L) (k : Nat) : Row w g k (L.drop k) := by
  have := h.drop k
  rw [Nat.zero_add] at this
  exact this
theorem pre_step {L : List UInt8} {s k : Nat} (hs : s = 2 * k) (h : ∀ j, 2 * j < s → At L (2 * j)) (ha : At L s) : ∀ j, 2 * j < s + 2 → At L (2 * j) := by
  intro j hj
  by_cases e : 2 * j < s
  · exact h j e
  · have : 2 * j = s := by omega
    rw [this]; exact ha

set_option maxHeartbeats 1000000 in
theorem head_any (g n : Nat) (L : List UInt8) (m : Int) (w : World) (hL : L.length = n) (hn : n ≤ 1048576) (hg : g < w.heap.size) (h0 : 0 < w.heap.size) (hr : Row w g 0 L) (hm : w.cell? ⟨0, 0, none⟩ = some (.int .i64 m)) :
    Calls Try.prog 26 #[.slice (some ⟨g, 0, none⟩) n n, .int .i64 0] w fun e w' => ∃ (s : Nat) (en : Int), e = .returned (.tuple #[.int .i64 (s : Int), .int .i64 en]) ∧ HE L s en ∧ Below w.heap.size w w' := by
  have kc := fun (w : World) (C : Array Value) (n c : Nat) => Lib.run_convert_bytes_const (P := Try.prog) w 22 5 C n c Try.underlying22 Try.underlying5
  have HL := show Hid _ from hL
  have HR : Hid (Row w g 0 L) := hr
  have HM := show Hid _ from hm
  clear hL hr hm
  go_enter Try.func26, Try.ntmps26
  go_wp2_with fail
  go_loopw [4] (fun v wr => ∃ s k : Nat, s = 2 * k ∧ s ≤ n ∧ v = .int .i64 s ∧ (∀ j, 2 * j < s → At L (2 * j)) ∧ Below w.heap.size w wr) (fun v _ => n - (intOf v).toNat)
  case atStart => exact ⟨0, 0, rfl, Nat.zero_le _, rfl, (fun j h => by omega), Below.refl _ _⟩
  case round =>
    obtain ⟨s, k, hsk, hsn, rfl, hpre, hb⟩ := hrel
    have HSK := show Hid _ from hsk
    have HP := show Hid _ from hpre
    have HB : Hid (Below w.heap.size w wr) := hb
    have HRr : Hid (Row wr g 0 L) := HR.out.below hb hg
    have HRd : Hid (Row wr g s (L.drop s)) := by have := HRr.out.drop s; rw [Nat.zero_add] at this; exact this
    have HDL : Hid ((L.drop s).length = n - s) := by have := HL.out; rw [Hid]; simp; omega
    clear hsk hpre hb
    by_cases hsn2 : n = s
    · subst hsn2
      go_wp2_with fail
      refine (hp_at g 0 0 0 _ [] [13, 10] 2 false _ rfl rfl (Nat.le_refl _) (fun h => absurd rfl h) (crlf_const wr) rfl).mono ?_
      rintro e wA ⟨rfl, hw⟩
      have hbA : Below w.heap.size w wA := by rw [← hw]; exact HB.out.alloc HB.out.size _
      have HBA : Hid (Below w.heap.size w wA) := hbA
      have hmx : max (n : Int) (-3) = (n : Int) := by omega
      clear hw hbA
      go_wp2_with fail
      have hal : Below wA.heap.size wA (wA.alloc (.cells #[.int .u8 13, .int .u8 10, .int .u8 13, .int .u8 10] 5 (4, 5))) := (Below.refl _ _).alloc (Nat.le_refl _) _
      have hbB := HBA.out.trans (hal.mono HBA.out.size)
      refine (ix_at g 0 0 0 _ [] [13, 10, 13, 10] 4 (-1) m _ rfl rfl (Nat.le_refl _) (by omega) (by omega) (fun h => absurd rfl h) (crlf2_const wA) (by rw [hbB.cell (p := ⟨0, 0, none⟩) h0]; exact HM.out) rfl).mono ?_
      rintro e wB ⟨rfl, q, rfl⟩
      have HBB := show Hid _ from (show Below w.heap.size w ((wA.alloc (.cells #[.int .u8 13, .int .u8 10, .int .u8 13, .int .u8 10] 5 (4, 5))).drewN q) from below_drewN hbB q)
      clear hal hbB
      go_wp2
      go_ret2
      exact ⟨n, -1, rfl, he_end HL.out HSK.out HP.out, HBB.out⟩
    · by_cases hat : At L s
      · have HAT : Hid (At L s) := hat
        have HH : Hid (Lib.hasPrefix (L.drop s) [13, 10] = true) := (hasPrefix_iff L [13, 10] s (by have := HL.out; omega)).2 ((at_iff L s).1 hat)
        have hs1 : s + 1 < n := by have := hat.1; have := HL.out; omega
        clear hat
        go_wp2_with fail
        refine (hp_at g s (n - s) (n - s) _ (L.drop s) [13, 10] 2 true _ HDL.out rfl (Nat.le_refl _) (by exact (HRd.out.alloc _).cells) (crlf_const wr) HH.out).mono ?_
        rintro e w' ⟨rfl, rfl⟩
        go_wp2
        go_roundw
        case rel => exact ⟨s + 2, k + 1, by have := HSK.out; omega, by omega, by go_num, pre_step HSK.out HP.out HAT.out, HB.out.alloc (HB.out.size) _⟩
        case measure => simp [intOf]; omega
      · have HAT : Hid (¬ At L s) := hat
        have HH : Hid (Lib.hasPrefix (L.drop s) [13, 10] = false) := by
          cases hb : Lib.hasPrefix (L.drop s) [13, 10] with
          | false => rfl
          | true => exact absurd ((at_iff L s).2 ((hasPrefix_iff L [13, 10] s (by have := HL.out; omega)).1 hb)) hat
        clear hat
        go_wp2_with fail
        refine (hp_at g s (n - s) (n - s) _ (L.drop s) [13, 10] 2 false _ HDL.out rfl (Nat.le_refl _) (by exact (HRd.out.alloc _).cells) (crlf_const wr) HH.out).mono ?_
        rintro e wA ⟨rfl, hw⟩
        have hbA : Below w.heap.size w wA := by rw [← hw]; exact HB.out.alloc HB.out.size _
        have HBA : Hid (Below w.heap.size w wA) := hbA
        have hmx : max (s : Int) (-3) = (s : Int) := by omega
        clear hw hbA
        go_wp2_with fail
        have hal : Below wA.heap.size wA (wA.alloc (.cells #[.int .u8 13, .int .u8 10, .int .u8 13, .int .u8 10] 5 (4, 5))) := (Below.refl _ _).alloc (Nat.le_refl _) _
        have hbB := HBA.out.trans (hal.mono HBA.out.size)
        rcases index_cases (L.drop s) [13, 10, 13, 10] with ⟨hi, hno⟩ | ⟨t, hi, hoc, hno⟩
        · have HI := show Hid _ from hi
          have HNO := show Hid _ from hno
          clear hi hno
          refine (ix_at g s (n - s) (n - s) _ (L.drop s) [13, 10, 13, 10] 4 (-1) m _ HDL.out rfl (Nat.le_refl _) (by omega) (by omega) (by exact ((HR.out.below hbB hg).drop' s).cells) (crlf2_const wA) (by rw [hbB.cell (p := ⟨0, 0, none⟩) h0]; exact HM.out) HI.out).mono ?_
          rintro e wB ⟨rfl, q, rfl⟩
          have HBB := show Hid _ from (show Below w.heap.size w ((wA.alloc (.cells #[.int .u8 13, .int .u8 10, .int .u8 13, .int .u8 10] 5 (4, 5))).drewN q) from below_drewN hbB q)
          clear hal hbB
          go_wp2
          go_ret2
          exact ⟨s, -1, rfl, he_none HL.out hsn HSK.out HP.out HAT.out HNO.out, HBB.out⟩
        · have HI := show Hid _ from hi
          have HNO := show Hid _ from hno
          have HOC : Hid (Occ (L.drop s) [13, 10, 13, 10] t) := hoc
          have htn : s + t + 4 ≤ n := by
            have h1 : t + 4 ≤ (L.drop s).length := hoc.1
            have := HDL.out
            omega
          clear hi hno hoc
          refine (ix_at g s (n - s) (n - s) _ (L.drop s) [13, 10, 13, 10] 4 (t : Int) m _ HDL.out rfl (Nat.le_refl _) (by omega) (by omega) (by exact ((HR.out.below hbB hg).drop' s).cells) (crlf2_const wA) (by rw [hbB.cell (p := ⟨0, 0, none⟩) h0]; exact HM.out) HI.out).mono ?_
          rintro e wB ⟨rfl, q, rfl⟩
          have HBB := show Hid _ from (show Below w.heap.size w ((wA.alloc (.cells #[.int .u8 13, .int .u8 10, .int .u8 13, .int .u8 10] 5 (4, 5))).drewN q) from below_drewN hbB q)
          clear hal hbB
          go_wp2
          go_ret2
          exact ⟨s, _, rfl, he_some HL.out hsn HSK.out HP.out HAT.out HOC.out HNO.out, HBB.out⟩
end Go.Proofs.Qxb6002681a
