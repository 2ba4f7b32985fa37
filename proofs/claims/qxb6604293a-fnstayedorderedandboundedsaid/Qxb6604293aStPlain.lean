namespace Go.Proofs.Qxb6604293a.St

/-- how many of the head of rs are below v -/
def lb (rs : List Int) (v : Int) : Nat := (rs.takeWhile (fun x => decide (x < v))).length

theorem lb_le (rs : List Int) (v : Int) : lb rs v ≤ rs.length := by
  unfold lb
  exact (List.takeWhile_prefix _).length_le

theorem lb_eq (rs : List Int) (v : Int) (k : Nat) (hk : k ≤ rs.length) (h1 : ∀ t, t < k → rs.getD t 0 < v) (h2 : k < rs.length → v ≤ rs.getD k 0) : lb rs v = k := by
  unfold lb
  induction rs generalizing k with
  | nil => simp at hk; simp [hk]
  | cons x r ih =>
    cases k with
    | zero =>
      have := h2 (by simp)
      simp at this
      rw [List.takeWhile_cons_of_neg (by simp; omega)]; rfl
    | succ k =>
      have h0 := h1 0 (by omega)
      simp at h0
      rw [List.takeWhile_cons_of_pos (by simpa using h0), List.length_cons, ih k (by simpa using hk)]
      · intro t ht
        have := h1 (t + 1) (by omega)
        simpa using this
      · intro h
        have := h2 (by simpa using h)
        simpa using this

theorem lb_lt (rs : List Int) (v : Int) (t : Nat) (ht : t < lb rs v) : rs.getD t 0 < v := by
  unfold lb at ht
  induction rs generalizing t with
  | nil => simp at ht
  | cons x r ih =>
    by_cases hx : x < v
    · rw [List.takeWhile_cons_of_pos (by simpa using hx)] at ht
      cases t with
      | zero => simpa using hx
      | succ t => simpa using ih t (by simpa using ht)
    · rw [List.takeWhile_cons_of_neg (by simpa using hx)] at ht
      simp at ht

theorem lb_ge (rs : List Int) (v : Int) (h : lb rs v < rs.length) : v ≤ rs.getD (lb rs v) 0 := by
  unfold lb at h ⊢
  induction rs with
  | nil => simp at h
  | cons x r ih =>
    by_cases hx : x < v
    · rw [List.takeWhile_cons_of_pos (by simpa using hx)] at h ⊢
      simpa using ih (by simpa using h)
    · rw [List.takeWhile_cons_of_neg (by simpa using hx)]
      simp; omega

/-- v stands among rs (at the place of the first that is not below it) -/
def hit (rs : List Int) (v : Int) : Bool := decide (lb rs v < rs.length) && decide (rs.getD (lb rs v) 0 = v)

/-- neighbours do not fall -/
def Asc (xs : List Int) : Prop := ∀ i, i + 1 < xs.length → xs.getD i 0 ≤ xs.getD (i + 1) 0

theorem Asc.le {xs : List Int} (h : Asc xs) (i d : Nat) (hd : i + d < xs.length) : xs.getD i 0 ≤ xs.getD (i + d) 0 := by
  induction d with
  | zero => exact Int.le_refl _
  | succ d ih => exact Int.le_trans (ih (by omega)) (h (i + d) (by omega))

theorem Asc.le' {xs : List Int} (h : Asc xs) {i j : Nat} (hij : i ≤ j) (hj : j < xs.length) : xs.getD i 0 ≤ xs.getD j 0 := by
  obtain ⟨d, rfl⟩ := Nat.exists_eq_add_of_le hij
  exact h.le i d hj

/-- one kept place -/
def keep1 (f : Int → Nat → Int) (rs : List Int) (v : Int) : Option Int := if hit rs v then none else some (f v (lb rs v))
def kept (f : Int → Nat → Int) (rs ps : List Int) : List Int := ps.filterMap (keep1 f rs)

theorem kept_take_hit (f : Int → Nat → Int) (rs ps : List Int) (k : Nat) (hk : k < ps.length) (hh : hit rs (ps.getD k 0) = true) :
    kept f rs (ps.take (k + 1)) = kept f rs (ps.take k) := by
  have e : ps.getD k 0 = ps[k] := by simp [hk]
  rw [List.take_succ_eq_append_getElem hk]
  rw [e] at hh
  unfold kept
  rw [List.filterMap_append]
  simp [keep1, hh]

theorem kept_take_miss (f : Int → Nat → Int) (rs ps : List Int) (k : Nat) (hk : k < ps.length) (hh : hit rs (ps.getD k 0) = false) :
    kept f rs (ps.take (k + 1)) = kept f rs (ps.take k) ++ [f (ps.getD k 0) (lb rs (ps.getD k 0))] := by
  have e : ps.getD k 0 = ps[k] := by simp [hk]
  rw [List.take_succ_eq_append_getElem hk]
  rw [e] at hh ⊢
  unfold kept
  rw [List.filterMap_append]
  simp [keep1, hh]

theorem kept_len (f : Int → Nat → Int) (rs ps : List Int) : (kept f rs ps).length ≤ ps.length := List.length_filterMap_le _ _

theorem kept_take_len (f : Int → Nat → Int) (rs ps : List Int) (k : Nat) : (kept f rs (ps.take k)).length ≤ k :=
  Nat.le_trans (kept_len _ _ _) (List.length_take_le _ _)

theorem kept_split (f : Int → Nat → Int) (rs ps : List Int) (k : Nat) : kept f rs ps = kept f rs (ps.take k) ++ kept f rs (ps.drop k) := by
  unfold kept
  rw [← List.filterMap_append, List.take_append_drop]

theorem kept_at (f : Int → Nat → Int) (rs ps : List Int) (k : Nat) (hk : k < ps.length) (hh : hit rs (ps.getD k 0) = false) :
    (kept f rs (ps.take k)).length < (kept f rs ps).length ∧ (kept f rs ps).getD (kept f rs (ps.take k)).length 0 = f (ps.getD k 0) (lb rs (ps.getD k 0)) := by
  rw [kept_split f rs ps (k + 1), kept_take_miss f rs ps k hk hh]
  constructor
  · simp
  · simp

/-! the second law: strictly ascending, none below 0 -/
structure Str (xs : List Int) : Prop where
  nn : ∀ i, i < xs.length → 0 ≤ xs.getD i 0
  up : ∀ i, i + 1 < xs.length → xs.getD i 0 < xs.getD (i + 1) 0

theorem Str.asc {xs : List Int} (h : Str xs) : Asc xs := fun i hi => Int.le_of_lt (h.up i hi)

theorem Str.far {xs : List Int} (h : Str xs) (i d : Nat) (hd : i + d < xs.length) : xs.getD i 0 + d ≤ xs.getD (i + d) 0 := by
  induction d with
  | zero => simp
  | succ d ih =>
    have a := ih (by omega)
    have b := h.up (i + d) (by omega)
    have e : i + (d + 1) = i + d + 1 := by omega
    rw [e]
    omega

theorem Str.ge {xs : List Int} (h : Str xs) (i : Nat) (hi : i < xs.length) : (i : Int) ≤ xs.getD i 0 := by
  have a := h.far 0 i (by omega)
  have b := h.nn 0 (by omega)
  rw [Nat.zero_add] at a
  omega

theorem lb_below {rs : List Int} (h : Str rs) (v : Int) (hv : 0 ≤ v) : (lb rs v : Int) ≤ v := by
  by_cases h0 : lb rs v = 0
  · omega
  · have a := lb_lt rs v (lb rs v - 1) (by omega)
    have b := h.ge (lb rs v - 1) (by have := lb_le rs v; omega)
    omega

theorem lb_gap {rs : List Int} (h : Str rs) (p q : Int) (hpq : p < q) (hp : hit rs p = false) : p - (lb rs p : Int) < q - (lb rs q : Int) := by
  by_cases hle : lb rs q ≤ lb rs p
  · omega
  · have hl := lb_le rs q
    have hlt : lb rs p < rs.length := by omega
    have a := lb_ge rs p hlt
    have ne : rs.getD (lb rs p) 0 ≠ p := by
      intro e
      unfold hit at hp
      simp only [Bool.and_eq_false_iff, decide_eq_false_iff_not] at hp
      rcases hp with hp | hp
      · exact hp hlt
      · exact hp e
    have b := lb_lt rs q (lb rs q - 1) (by omega)
    have c := h.far (lb rs p) (lb rs q - 1 - lb rs p) (by omega)
    have e : lb rs p + (lb rs q - 1 - lb rs p) = lb rs q - 1 := by omega
    rw [e] at c
    omega

def hits (rs ps : List Int) : Nat := (ps.filter (hit rs)).length

theorem hits_le (rs ps : List Int) : hits rs ps ≤ ps.length := List.length_filter_le _ _

theorem kept_hits (f : Int → Nat → Int) (rs ps : List Int) : (kept f rs ps).length + hits rs ps = ps.length := by
  unfold kept hits
  induction ps with
  | nil => rfl
  | cons x r ih =>
    cases hx : hit rs x <;> simp [keep1, hx] <;> omega

theorem hits_take (rs ps : List Int) (k : Nat) (hk : k < ps.length) : hits rs (ps.take (k + 1)) = hits rs (ps.take k) + if hit rs (ps.getD k 0) = true then 1 else 0 := by
  have e : ps.getD k 0 = ps[k] := by simp [hk]
  rw [List.take_succ_eq_append_getElem hk, e]
  unfold hits
  rw [List.filter_append, List.length_append]
  by_cases hh : hit rs ps[k] = true <;> simp [hh]

theorem str_tail {x : Int} {r : List Int} (h : Str (x :: r)) : Str r :=
  ⟨fun i hi => by simpa using h.nn (i + 1) (by simpa using hi), fun i hi => by simpa using h.up (i + 1) (by simpa using hi)⟩

theorem str_head {x : Int} {r : List Int} (h : Str (x :: r)) : ∀ y ∈ r, x < y := by
  intro y hy
  obtain ⟨i, hi, rfl⟩ := List.getElem_of_mem hy
  have := h.far 0 (i + 1) (by simpa using hi)
  simp [hi] at this
  omega

/-- what is kept: none below 0, strictly ascending (f: the difference, as Go reckons it) -/
theorem kept_good (f : Int → Nat → Int) (rs ps : List Int) (hr : Str rs) (hp : Str ps) (hf : ∀ p ∈ ps, f p (lb rs p) = p - (lb rs p : Int)) :
    (∀ y ∈ kept f rs ps, 0 ≤ y) ∧ (kept f rs ps).Pairwise (· < ·) ∧ (∀ y ∈ kept f rs ps, ∃ p ∈ ps, hit rs p = false ∧ y = p - (lb rs p : Int)) := by
  induction ps with
  | nil => simp [kept]
  | cons x r ih =>
    obtain ⟨i1, i2, i3⟩ := ih (str_tail hp) (fun p h => hf p (List.mem_cons_of_mem _ h))
    have hx0 : 0 ≤ x := by simpa using hp.nn 0 (by simp)
    cases hx : hit rs x with
    | true =>
      have e : kept f rs (x :: r) = kept f rs r := by simp [kept, keep1, hx]
      rw [e]
      refine ⟨i1, i2, fun y hy => ?_⟩
      obtain ⟨p, h1, h2⟩ := i3 y hy
      exact ⟨p, List.mem_cons_of_mem _ h1, h2⟩
    | false =>
      have e : kept f rs (x :: r) = f x (lb rs x) :: kept f rs r := by simp [kept, keep1, hx]
      have hfx := hf x (by simp)
      have hb := lb_below hr x hx0
      rw [e, hfx]
      refine ⟨?_, ?_, ?_⟩
      · intro y hy
        rcases List.mem_cons.1 hy with rfl | hy
        · omega
        · exact i1 y hy
      · refine List.pairwise_cons.2 ⟨fun y hy => ?_, i2⟩
        obtain ⟨p, h1, h2, rfl⟩ := i3 y hy
        exact lb_gap hr x p (str_head hp p h1) hx
      · intro y hy
        rcases List.mem_cons.1 hy with rfl | hy
        · exact ⟨x, by simp, hx, rfl⟩
        · obtain ⟨p, h1, h2⟩ := i3 y hy
          exact ⟨p, List.mem_cons_of_mem _ h1, h2⟩

theorem pairwise_at {l : List Int} (h : l.Pairwise (· < ·)) (j : Nat) (hj : j + 1 < l.length) : l.getD j 0 < l.getD (j + 1) 0 := by
  have := List.pairwise_iff_getElem.1 h j (j + 1) (by omega) hj (by omega)
  simpa [hj, Nat.lt_of_succ_lt hj] using this

end Go.Proofs.Qxb6604293a.St
