namespace Go.Proofs.Qxb6604293a.Sc

/-- the first i below n at which p says yes; n where none does -/
def first (p : Nat → Bool) : Nat → Nat
  | 0 => 0
  | n + 1 => if first p n < n then first p n else if p n then n else n + 1

theorem first_le (p : Nat → Bool) (n : Nat) : first p n ≤ n := by
  induction n with
  | zero => exact Nat.le_refl _
  | succ n ih => unfold first; split <;> (try split) <;> omega

theorem first_no (p : Nat → Bool) (n : Nat) : ∀ j, j < first p n → p j = false := by
  induction n with
  | zero => intro j hj; simp [first] at hj
  | succ n ih =>
    intro j hj
    unfold first at hj
    have hle := first_le p n
    split at hj
    · exact ih j hj
    · split at hj
      · exact ih j (by omega)
      · rename_i h1 h2
        by_cases e : j = n
        · subst e; simpa using h2
        · exact ih j (by omega)

theorem first_yes (p : Nat → Bool) (n : Nat) (h : first p n < n) : p (first p n) = true := by
  induction n with
  | zero => omega
  | succ n ih =>
    unfold first at h ⊢
    have hle := first_le p n
    split
    · rename_i h1; exact ih h1
    · split
      · rename_i h1 h2; exact h2
      · rename_i h1 h2; simp [h1, h2] at h

theorem first_eq (p : Nat → Bool) (n k : Nat) (hk : k ≤ n) (h1 : ∀ j, j < k → p j = false) (h2 : k < n → p k = true) : first p n = k := by
  have a := first_le p n
  rcases Nat.lt_trichotomy (first p n) k with h | h | h
  · have := first_yes p n (by omega)
    rw [h1 _ h] at this
    cases this
  · exact h
  · have := first_no p n k h
    rw [h2 (by omega)] at this
    cases this

theorem first_ge (p : Nat → Bool) (n k : Nat) (hk : k ≤ n) (h1 : ∀ j, j < k → p j = false) : k ≤ first p n := by
  apply Nat.le_of_not_lt
  intro h
  have := first_yes p n (by omega)
  rw [h1 _ h] at this
  cases this

def short (f r : List Int) (i : Nat) : Bool := decide (f.getD (i * r.length) 0 < r.getD 0 0)
def cov (f r : List Int) (i : Nat) : Bool := (List.range r.length).all fun t => decide (r.getD t 0 ≤ f.getD (i * r.length + t) 0)

theorem cov_iff (f r : List Int) (i : Nat) : cov f r i = true ↔ ∀ t, t < r.length → r.getD t 0 ≤ f.getD (i * r.length + t) 0 := by
  simp [cov]

theorem cov_no (f r : List Int) (i t : Nat) (ht : t < r.length) (h : f.getD (i * r.length + t) 0 < r.getD t 0) : cov f r i = false := by
  cases e : cov f r i
  · rfl
  · have := (cov_iff f r i).1 e t ht
    omega

theorem short_iff (f r : List Int) (i : Nat) : short f r i = true ↔ f.getD (i * r.length) 0 < r.getD 0 0 := by simp [short]
theorem short_no (f r : List Int) (i : Nat) : short f r i = false ↔ r.getD 0 0 ≤ f.getD (i * r.length) 0 := by simp [short]

theorem cov_short (f r : List Int) (i : Nat) (hr : 0 < r.length) (h : cov f r i = true) : short f r i = false := by
  have := (cov_iff f r i).1 h 0 hr
  rw [short_no]
  simpa using this

def num (f r : List Int) : Nat := f.length / r.length

/-- found or not; how many looks -/
def ans (f r : List Int) : Bool × Nat :=
  if first (cov f r) (num f r) < first (short f r) (num f r) then (true, first (cov f r) (num f r) + 1)
  else if first (short f r) (num f r) < num f r then (false, first (short f r) (num f r) + 1)
  else (false, num f r)

theorem ans_short (f r : List Int) (i : Nat) (hi : i < num f r) (h : ∀ j, j < i → short f r j = false ∧ cov f r j = false) (hs : short f r i = true) : ans f r = (false, i + 1) := by
  have e := first_eq (short f r) (num f r) i (by omega) (fun j hj => (h j hj).1) (fun _ => hs)
  have g := first_ge (cov f r) (num f r) i (by omega) (fun j hj => (h j hj).2)
  unfold ans
  rw [e, if_neg (by omega), if_pos hi]

theorem ans_cov (f r : List Int) (i : Nat) (hi : i < num f r) (h : ∀ j, j < i → short f r j = false ∧ cov f r j = false) (hs : short f r i = false) (hc : cov f r i = true) : ans f r = (true, i + 1) := by
  have e := first_eq (cov f r) (num f r) i (by omega) (fun j hj => (h j hj).2) (fun _ => hc)
  have g := first_ge (short f r) (num f r) (i + 1) (by omega) (fun j hj => by
    by_cases e : j = i
    · subst e; exact hs
    · exact (h j (by omega)).1)
  unfold ans
  rw [e, if_pos (by omega)]

theorem ans_end (f r : List Int) (h : ∀ j, j < num f r → short f r j = false ∧ cov f r j = false) : ans f r = (false, num f r) := by
  have e := first_eq (cov f r) (num f r) (num f r) (by omega) (fun j hj => (h j hj).2) (fun h => absurd h (by omega))
  have g := first_eq (short f r) (num f r) (num f r) (by omega) (fun j hj => (h j hj).1) (fun h => absurd h (by omega))
  unfold ans
  rw [e, g]
  simp

/-! the second law -/
def Falls (f : List Int) (w : Nat) : Prop := ∀ i, i + 1 < f.length / w → f.getD ((i + 1) * w) 0 ≤ f.getD (i * w) 0

theorem Falls.le {f : List Int} {w : Nat} (h : Falls f w) (i d : Nat) (hd : i + d < f.length / w) : f.getD ((i + d) * w) 0 ≤ f.getD (i * w) 0 := by
  induction d with
  | zero => exact Int.le_refl _
  | succ d ih => exact Int.le_trans (h (i + d) (by omega)) (ih (by omega))

theorem ans_some (f r : List Int) (hr : 0 < r.length) (h : Falls f r.length) : (ans f r).1 = decide (first (cov f r) (num f r) < num f r) := by
  have hk := first_le (short f r) (num f r)
  have hm := first_le (cov f r) (num f r)
  unfold ans
  by_cases c : first (cov f r) (num f r) < first (short f r) (num f r)
  · rw [if_pos c]; simp; omega
  · rw [if_neg c]
    have no : ¬ first (cov f r) (num f r) < num f r := by
      intro hlt
      have hks := first_yes (short f r) (num f r) (by omega)
      have hc := first_yes (cov f r) (num f r) hlt
      have hs := cov_short f r _ hr hc
      rw [short_no] at hs
      rw [short_iff] at hks
      obtain ⟨d, hd⟩ := Nat.exists_eq_add_of_le (Nat.le_of_not_lt c)
      have := h.le (first (short f r) (num f r)) d (by unfold num at hd hlt ⊢; omega)
      rw [← hd] at this
      omega
    split <;> simp [no]

theorem ans_steps (f r : List Int) : (num f r = 0 → (ans f r).2 = 0) ∧ (0 < num f r → 1 ≤ (ans f r).2) ∧ (ans f r).2 ≤ num f r := by
  have hk := first_le (short f r) (num f r)
  have hm := first_le (cov f r) (num f r)
  unfold ans
  split
  · exact ⟨by omega, fun _ => by simp, by simp; omega⟩
  · split
    · exact ⟨by omega, fun _ => by simp, by simp; omega⟩
    · exact ⟨fun h => h, fun h => h, Nat.le_refl _⟩

/-! what is left -/
def rem1 (l o : Int) : Int := if l - o < 0 then 0 else l - o
def remain (left offer : List Int) (w : Nat) : List Int := (List.range w).map fun t => rem1 (left.getD t 0) (offer.getD t 0)

theorem remain_length (left offer : List Int) (w : Nat) : (remain left offer w).length = w := by simp [remain]
theorem remain_at (left offer : List Int) (w t : Nat) (ht : t < w) : (remain left offer w).getD t 0 = rem1 (left.getD t 0) (offer.getD t 0) := by
  simp [remain, ht]
theorem rem1_nn (l o : Int) : 0 ≤ rem1 l o := by unfold rem1; split <;> omega
end Go.Proofs.Qxb6604293a.Sc
