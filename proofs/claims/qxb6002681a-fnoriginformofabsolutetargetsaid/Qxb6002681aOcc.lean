import Derived.Lib.IndexLaws
namespace Go.Proofs.Qxb6002681a

/-- 'sub' stands at place j of L -/
def Occ (L sub : List UInt8) (j : Nat) : Prop := j + sub.length ≤ L.length ∧ ∀ t, t < sub.length → L.getD (j + t) 0 = sub.getD t 0
theorem prefix_iff : ∀ (sub l : List UInt8), sub.isPrefixOf l = true ↔ sub.length ≤ l.length ∧ ∀ t, t < sub.length → l.getD t 0 = sub.getD t 0
  | [], l => by simp
  | a :: s, [] => by simp
  | a :: s, b :: l => by
    have ih := prefix_iff s l
    rw [List.isPrefixOf, Bool.and_eq_true, ih, beq_iff_eq]
    constructor
    · rintro ⟨rfl, h1, h2⟩
      refine ⟨by simpa using h1, fun t ht => ?_⟩
      cases t with
      | zero => rfl
      | succ t => simpa using h2 t (by simpa using ht)
    · rintro ⟨h1, h2⟩
      refine ⟨by simpa using (h2 0 (by simp)).symm, by simpa using h1, fun t ht => ?_⟩
      simpa using h2 (t + 1) (by simpa using ht)
theorem occ_iff (L sub : List UInt8) (j : Nat) (hj : j ≤ L.length) : Lib.occAt L sub j = true ↔ Occ L sub j := by
  unfold Lib.occAt Occ
  rw [prefix_iff]
  constructor
  · rintro ⟨h1, h2⟩
    refine ⟨by simp at h1; omega, fun t ht => ?_⟩
    rw [← h2 t ht, List.getD, List.getD, List.getElem?_drop]
  · rintro ⟨h1, h2⟩
    refine ⟨by simp; omega, fun t ht => ?_⟩
    rw [← h2 t ht, List.getD, List.getD, List.getElem?_drop]
theorem hasPrefix_iff (L sub : List UInt8) (j : Nat) (hj : j ≤ L.length) : Lib.hasPrefix (L.drop j) sub = true ↔ Occ L sub j := occ_iff L sub j hj

theorem least {p : Nat → Prop} (h : ∃ n, p n) : ∃ n, p n ∧ ∀ m, m < n → ¬ p m := by
  have key : ∀ k, (∃ i, i < k ∧ p i) → ∃ n, p n ∧ ∀ m, m < n → ¬ p m := by
    intro k
    induction k with
    | zero => rintro ⟨i, h, _⟩; omega
    | succ k ih =>
      rintro ⟨i, hi, hp⟩
      by_cases hb : ∃ j, j < k ∧ p j
      · exact ih hb
      · by_cases e : i = k
        · subst e; exact ⟨i, hp, fun j hj hpj => hb ⟨j, hj, hpj⟩⟩
        · exact absurd ⟨i, by omega, hp⟩ hb
  obtain ⟨n, hn⟩ := h
  exact key (n + 1) ⟨n, by omega, hn⟩

theorem index_cases (L sub : List UInt8) : (Lib.index L sub = -1 ∧ ∀ j, ¬ Occ L sub j) ∨ ∃ t : Nat, Lib.index L sub = (t : Int) ∧ Occ L sub t ∧ ∀ j, j < t → ¬ Occ L sub j := by
  by_cases hex : ∃ j, Occ L sub j
  · obtain ⟨t, ht, hno⟩ := least hex
    have htl : t ≤ L.length := by have := ht.1; omega
    refine Or.inr ⟨t, ?_, ht, hno⟩
    refine Lib.index_first htl ((occ_iff L sub t htl).2 ht) (fun j hj => ?_)
    cases hb : Lib.occAt L sub j with
    | false => rfl
    | true => exact absurd ((occ_iff L sub j (by omega)).1 hb) (hno j hj)
  · refine Or.inl ⟨Lib.index_none (fun j hj => ?_), fun j h => hex ⟨j, h⟩⟩
    cases hb : Lib.occAt L sub j with
    | false => rfl
    | true => exact absurd ⟨j, (occ_iff L sub j hj).1 hb⟩ hex
theorem occ_drop (L sub : List UInt8) (s j : Nat) (hs : s ≤ L.length) : Occ (L.drop s) sub j ↔ Occ L sub (s + j) := by
  unfold Occ
  constructor
  · rintro ⟨h1, h2⟩
    refine ⟨by simp at h1; omega, fun t ht => ?_⟩
    rw [← h2 t ht, List.getD, List.getD, List.getElem?_drop, Nat.add_assoc]
  · rintro ⟨h1, h2⟩
    refine ⟨by simp; omega, fun t ht => ?_⟩
    rw [← h2 t ht, List.getD, List.getD, List.getElem?_drop, Nat.add_assoc]
end Go.Proofs.Qxb6002681a
