namespace Go.Proofs.Qxb6001367a

/-- a list of bytes, read as one big-endian integer -/
def be (l : List Nat) : Nat := l.foldl (fun a d => a * 256 + d) 0
/-- a list of digits, the highest first, in base 62 -/
def v62 (l : List Nat) : Nat := l.foldl (fun a d => a * 62 + d) 0
def small (l : List Nat) : Prop := ∀ d ∈ l, d < 256

theorem be_acc (l : List Nat) : ∀ a, l.foldl (fun a d => a * 256 + d) a = a * 256 ^ l.length + be l := by
  induction l with
  | nil => intro a; simp [be]
  | cons d l ih =>
    intro a
    have h0 := ih (0 * 256 + d)
    have h1 := ih (a * 256 + d)
    simp only [be, List.foldl_cons, List.length_cons] at *
    rw [h1, h0, Nat.pow_succ, Nat.add_mul, Nat.add_mul, Nat.mul_assoc, Nat.mul_comm (256 ^ l.length) 256]
    omega
theorem be_nil : be [] = 0 := rfl
theorem be_cons (d : Nat) (l : List Nat) : be (d :: l) = d * 256 ^ l.length + be l := by
  have := be_acc l (0 * 256 + d)
  simp only [be, List.foldl_cons] at *
  rw [this]; simp
theorem be_append (l r : List Nat) : be (l ++ r) = be l * 256 ^ r.length + be r := by
  unfold be
  rw [List.foldl_append]
  exact be_acc r _
theorem be_snoc (l : List Nat) (d : Nat) : be (l ++ [d]) = be l * 256 + d := by
  rw [be_append]; simp [be]
theorem v62_acc (l : List Nat) : ∀ a, l.foldl (fun a d => a * 62 + d) a = a * 62 ^ l.length + v62 l := by
  induction l with
  | nil => intro a; simp [v62]
  | cons d l ih =>
    intro a
    have h0 := ih (0 * 62 + d)
    have h1 := ih (a * 62 + d)
    simp only [v62, List.foldl_cons, List.length_cons] at *
    rw [h1, h0, Nat.pow_succ, Nat.add_mul, Nat.add_mul, Nat.mul_assoc, Nat.mul_comm (62 ^ l.length) 62]
    omega
theorem v62_cons (d : Nat) (l : List Nat) : v62 (d :: l) = d * 62 ^ l.length + v62 l := by
  have := v62_acc l (0 * 62 + d)
  simp only [v62, List.foldl_cons] at *
  rw [this]; simp
theorem v62_append (l r : List Nat) : v62 (l ++ r) = v62 l * 62 ^ r.length + v62 r := by
  unfold v62
  rw [List.foldl_append]
  exact v62_acc r _
theorem v62_snoc (l : List Nat) (d : Nat) : v62 (l ++ [d]) = v62 l * 62 + d := by
  rw [v62_append]; simp [v62]
theorem v62_take_le (l : List Nat) (k : Nat) : v62 (l.take k) ≤ v62 l := by
  have h := v62_append (l.take k) (l.drop k)
  rw [List.take_append_drop] at h
  have hp : 1 ≤ 62 ^ (l.drop k).length := Nat.pow_pos (by omega)
  have := Nat.mul_le_mul_left (v62 (l.take k)) hp
  omega

theorem small_nil : small [] := fun _ h => by cases h
theorem small_snoc {l : List Nat} {d : Nat} (h : small l) (hd : d < 256) : small (l ++ [d]) := by
  intro x hx
  rcases List.mem_append.1 hx with h1 | h1
  · exact h x h1
  · simp at h1; omega
theorem small_cons {l : List Nat} {d : Nat} (h : small l) (hd : d < 256) : small (d :: l) := by
  intro x hx
  rcases List.mem_cons.1 hx with h1 | h1
  · omega
  · exact h x h1
theorem small_tail {l : List Nat} {d : Nat} (h : small (d :: l)) : small l := fun x hx => h x (List.mem_cons_of_mem _ hx)
theorem small_drop {l : List Nat} (h : small l) (k : Nat) : small (l.drop k) := fun x hx => h x (List.mem_of_mem_drop hx)
theorem small_get {l : List Nat} (h : small l) (k : Nat) (hk : k < l.length) : l[k] < 256 := h _ (List.getElem_mem hk)

theorem be_lt {l : List Nat} (h : small l) : be l < 256 ^ l.length := by
  induction l with
  | nil => simp [be]
  | cons d l ih =>
    have h1 := ih (small_tail h)
    have h2 : d < 256 := h d (by simp)
    rw [be_cons, List.length_cons, Nat.pow_succ]
    have : d * 256 ^ l.length ≤ 255 * 256 ^ l.length := Nat.mul_le_mul_right _ (by omega)
    omega
theorem be_inj : ∀ {l r : List Nat}, small l → small r → l.length = r.length → be l = be r → l = r
  | [], [], _, _, _, _ => rfl
  | [], _ :: _, _, _, h, _ => by simp at h
  | _ :: _, [], _, _, h, _ => by simp at h
  | a :: l, b :: r, hl, hr, h, e => by
    have hlen : l.length = r.length := by simpa using h
    have h1 := be_lt (small_tail hl)
    have h2 := be_lt (small_tail hr)
    rw [be_cons, be_cons, hlen] at e
    rw [hlen] at h1
    have hab : a = b := by
      have e1 : (a * 256 ^ r.length + be l) / 256 ^ r.length = a := by
        rw [Nat.add_comm, Nat.add_mul_div_right _ _ (Nat.lt_of_le_of_lt (Nat.zero_le _) h1), Nat.div_eq_of_lt h1]; omega
      have e2 : (b * 256 ^ r.length + be r) / 256 ^ r.length = b := by
        rw [Nat.add_comm, Nat.add_mul_div_right _ _ (Nat.lt_of_le_of_lt (Nat.zero_le _) h2), Nat.div_eq_of_lt h2]; omega
      rw [← e1, ← e2, e]
    subst hab
    have : be l = be r := by omega
    rw [be_inj (small_tail hl) (small_tail hr) hlen this]
theorem be_zero_cons (l : List Nat) : be (0 :: l) = be l := by rw [be_cons]; omega
theorem be_pos {d : Nat} {l : List Nat} (h : d ≠ 0) : 0 < be (d :: l) := by
  rw [be_cons]
  have : 0 < d * 256 ^ l.length := Nat.mul_pos (by omega) (Nat.pow_pos (by omega))
  omega

/-! one step of the division by 62 -/
theorem div_step (q r d x : Nat) (h : q * 62 + r = x) : (q * 256 + (r * 256 + d) / 62) * 62 + (r * 256 + d) % 62 = x * 256 + d := by
  omega
/-! one step of the multiplication by 62 -/
theorem mul_step (P b c x o dd : Nat) (h : b + c * P = o * 62 + dd) : ((x * 62 + c) % 256 * P + b) + (x * 62 + c) / 256 * (P * 256) = (x * P + o) * 62 + dd := by
  have h1 : (x * 62 + c) % 256 * P + (x * 62 + c) / 256 * (P * 256) = (x * 62 + c) * P := by
    have := Nat.mod_add_div (x * 62 + c) 256
    rw [show (x * 62 + c) / 256 * (P * 256) = (256 * ((x * 62 + c) / 256)) * P by rw [Nat.mul_comm 256, Nat.mul_assoc, Nat.mul_comm P 256], ← Nat.add_mul, this]
  rw [Nat.add_mul] at h1
  have h2 : (x * P + o) * 62 = x * 62 * P + o * 62 := by
    rw [Nat.add_mul, Nat.mul_assoc, Nat.mul_comm P 62, ← Nat.mul_assoc]
  rw [h2]
  generalize (x * 62 + c) % 256 * P = A at *
  generalize (x * 62 + c) / 256 * (P * 256) = B at *
  generalize x * 62 * P = C at *
  generalize c * P = D at *
  omega
end Go.Proofs.Qxb6001367a
