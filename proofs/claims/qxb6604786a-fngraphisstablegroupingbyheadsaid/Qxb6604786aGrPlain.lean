namespace Go.Proofs.Qxb6604786a.Gr

/-- how many lie below u; how many are u -/
def cnt (ts : List Int) (u : Int) : Nat := ts.countP (fun x => decide (x < u))
def eqc (ts : List Int) (u : Int) : Nat := ts.countP (fun x => decide (x = u))
/-- the place of arc j in the grouping -/
def pos (ts : List Int) (j : Nat) : Nat := cnt ts (ts.getD j 0) + eqc (ts.take j) (ts.getD j 0)

/-- all heads lie in [0, n) -/
def Among (ts : List Int) (n : Nat) : Prop := ∀ x ∈ ts, 0 ≤ x ∧ x < (n : Int)

theorem cnt_le (ts : List Int) (u : Int) : cnt ts u ≤ ts.length := List.countP_le_length
theorem eqc_le (ts : List Int) (u : Int) : eqc ts u ≤ ts.length := List.countP_le_length

theorem cnt_succ (ts : List Int) (u : Int) : cnt ts (u + 1) = cnt ts u + eqc ts u := by
  unfold cnt eqc
  induction ts with
  | nil => rfl
  | cons x r ih =>
    simp only [List.countP_cons, ih]
    by_cases h1 : x < u
    · have : x < u + 1 := by omega
      have h2 : ¬ x = u := by omega
      simp [h1, this, h2]; omega
    · by_cases h2 : x = u
      · subst h2
        have a : ¬ x < x := by omega
        have b : x < x + 1 := by omega
        simp [b]; omega
      · have : ¬ x < u + 1 := by omega
        simp [h1, this, h2]

theorem cnt_mono (ts : List Int) (u v : Int) (h : u ≤ v) : cnt ts u ≤ cnt ts v := by
  unfold cnt
  apply List.countP_mono_left
  intro x _ hx
  simp at hx ⊢
  omega

theorem cnt_zero {ts : List Int} {n : Nat} (h : Among ts n) : cnt ts 0 = 0 := by
  unfold cnt
  rw [List.countP_eq_zero]
  intro x hx
  have := h x hx
  simp; omega

theorem cnt_all {ts : List Int} {n : Nat} (h : Among ts n) : cnt ts n = ts.length := by
  unfold cnt
  rw [List.countP_eq_length]
  intro x hx
  have := h x hx
  simp; omega

theorem eqc_neg {ts : List Int} {n : Nat} (h : Among ts n) (u : Int) (hu : u < 0) : eqc ts u = 0 := by
  unfold eqc
  rw [List.countP_eq_zero]
  intro x hx
  have := h x hx
  simp; omega

theorem Among.at {ts : List Int} {n : Nat} (h : Among ts n) {j : Nat} (hj : j < ts.length) : 0 ≤ ts.getD j 0 ∧ ts.getD j 0 < (n : Int) := by
  have := h ts[j] (List.getElem_mem hj)
  simpa [hj] using this

theorem eqc_take_succ (ts : List Int) (j : Nat) (hj : j < ts.length) (u : Int) : eqc (ts.take (j + 1)) u = eqc (ts.take j) u + if ts.getD j 0 = u then 1 else 0 := by
  have e : ts.getD j 0 = ts[j] := by simp [hj]
  rw [List.take_succ_eq_append_getElem hj, e]
  unfold eqc
  rw [List.countP_append]
  simp [List.countP_cons]

theorem eqc_take_le (ts : List Int) (j k : Nat) (h : j ≤ k) (u : Int) : eqc (ts.take j) u ≤ eqc (ts.take k) u := by
  have e : ts.take j = (ts.take k).take j := by rw [List.take_take, Nat.min_eq_left h]
  rw [e]
  unfold eqc
  exact (List.take_sublist j _).countP_le

theorem eqc_take_full (ts : List Int) (j : Nat) (u : Int) : eqc (ts.take j) u ≤ eqc ts u := by
  unfold eqc
  exact (List.take_sublist j _).countP_le

theorem pos_lt_next (ts : List Int) (j : Nat) (hj : j < ts.length) : pos ts j < cnt ts (ts.getD j 0 + 1) := by
  unfold pos
  rw [cnt_succ]
  have a := eqc_take_succ ts j hj (ts.getD j 0)
  rw [if_pos rfl] at a
  have b := eqc_take_full ts (j + 1) (ts.getD j 0)
  omega

theorem pos_lt (ts : List Int) (j : Nat) (hj : j < ts.length) : pos ts j < ts.length :=
  Nat.lt_of_lt_of_le (pos_lt_next ts j hj) (cnt_le _ _)

theorem pos_ne (ts : List Int) (i j : Nat) (hij : i < j) (hj : j < ts.length) : pos ts i ≠ pos ts j := by
  have hi : i < ts.length := by omega
  rcases Int.lt_trichotomy (ts.getD i 0) (ts.getD j 0) with h | h | h
  · have a := pos_lt_next ts i hi
    have b := cnt_mono ts (ts.getD i 0 + 1) (ts.getD j 0) (by omega)
    have c : cnt ts (ts.getD j 0) ≤ pos ts j := Nat.le_add_right _ _
    omega
  · unfold pos
    rw [← h]
    have a := eqc_take_succ ts i hi (ts.getD i 0)
    rw [if_pos rfl] at a
    have b := eqc_take_le ts (i + 1) j (by omega) (ts.getD i 0)
    omega
  · have a := pos_lt_next ts j hj
    have b := cnt_mono ts (ts.getD j 0 + 1) (ts.getD i 0) (by omega)
    have c : cnt ts (ts.getD i 0) ≤ pos ts i := Nat.le_add_right _ _
    omega

/-! ### the three loops of graph -/
def L1 (ts : List Int) (n i : Nat) (S : List Int) : Prop := S.length = n + 1 ∧ ∀ v : Nat, v ≤ n → S.getD v 0 = (eqc (ts.take i) ((v : Int) - 1) : Int)
def L2 (ts : List Int) (n u : Nat) (S : List Int) : Prop := S.length = n + 1 ∧ (∀ v : Nat, v ≤ u → S.getD v 0 = (cnt ts (v : Int) : Int)) ∧ (∀ v : Nat, u < v → v ≤ n → S.getD v 0 = (eqc ts ((v : Int) - 1) : Int))
def L3 (ts fs : List Int) (n i : Nat) (Nx G : List Int) : Prop :=
  Nx.length = n ∧ (∀ v : Nat, v < n → Nx.getD v 0 = (cnt ts (v : Int) + eqc (ts.take i) (v : Int) : Int)) ∧ G.length = ts.length ∧ ∀ j, j < i → G.getD (pos ts j) 0 = fs.getD j 0

theorem getD_set_eq (ys : List Int) (k : Nat) (x : Int) (hk : k < ys.length) : (ys.set k x).getD k 0 = x := by simp [hk]
theorem getD_set_ne (ys : List Int) (k j : Nat) (x : Int) (h : j ≠ k) : (ys.set k x).getD j 0 = ys.getD j 0 := by
  simp [Ne.symm h]

theorem L1.start (ts : List Int) (n : Nat) : L1 ts n 0 (List.replicate (n + 1) 0) := by
  refine ⟨by simp, fun v hv => ?_⟩
  have : v < n + 1 := by omega
  simp [eqc, this]

theorem L1.step {ts : List Int} {n i : Nat} {S : List Int} (h : L1 ts n i S) (hi : i < ts.length) (t : Nat) (ht : ts.getD i 0 = (t : Int)) (htn : t < n) :
    L1 ts n (i + 1) (S.set (t + 1) (S.getD (t + 1) 0 + 1)) := by
  refine ⟨by rw [List.length_set]; exact h.1, fun v hv => ?_⟩
  rw [eqc_take_succ ts i hi, ht]
  by_cases e : v = t + 1
  · subst e
    rw [getD_set_eq _ _ _ (by rw [h.1]; omega), h.2 (t + 1) (by omega)]
    have : (t : Int) = ((t + 1 : Nat) : Int) - 1 := by omega
    rw [if_pos this]
    omega
  · rw [getD_set_ne _ _ _ _ e, h.2 v hv]
    have : ¬ (t : Int) = (v : Int) - 1 := by omega
    rw [if_neg this]
    simp

theorem L1.bound {ts : List Int} {n i : Nat} {S : List Int} (h : L1 ts n i S) (v : Nat) (hv : v ≤ n) : 0 ≤ S.getD v 0 ∧ S.getD v 0 ≤ ts.length := by
  rw [h.2 v hv]
  have := eqc_take_full ts i ((v : Int) - 1)
  have := eqc_le ts ((v : Int) - 1)
  omega

theorem L2.start {ts : List Int} {n : Nat} {S : List Int} (h : L1 ts n ts.length S) (ha : Among ts n) : L2 ts n 0 S := by
  have e : ts.take ts.length = ts := List.take_length
  refine ⟨h.1, fun v hv => ?_, fun v _ hv => ?_⟩
  · obtain rfl : v = 0 := by omega
    rw [h.2 0 (by omega), e, eqc_neg ha _ (by omega)]
    have : ((0 : Nat) : Int) = 0 := rfl
    rw [this, cnt_zero ha]
    rfl
  · rw [h.2 v hv, e]

theorem L2.step {ts : List Int} {n u : Nat} {S : List Int} (h : L2 ts n u S) (hu : u < n) : L2 ts n (u + 1) (S.set (u + 1) (S.getD (u + 1) 0 + S.getD u 0)) := by
  refine ⟨by rw [List.length_set]; exact h.1, fun v hv => ?_, fun v hv hn => ?_⟩
  · by_cases e : v = u + 1
    · subst e
      rw [getD_set_eq _ _ _ (by rw [h.1]; omega), h.2.1 u (Nat.le_refl _), h.2.2 (u + 1) (by omega) (by omega)]
      have c := cnt_succ ts (u : Int)
      have e1 : ((u + 1 : Nat) : Int) - 1 = (u : Int) := by omega
      have e2 : ((u + 1 : Nat) : Int) = (u : Int) + 1 := by omega
      rw [e1, e2, c]
      omega
    · rw [getD_set_ne _ _ _ _ e]
      exact h.2.1 v (by omega)
  · rw [getD_set_ne _ _ _ _ (by omega)]
    exact h.2.2 v (by omega) hn

theorem L2.bound {ts : List Int} {n u : Nat} {S : List Int} (h : L2 ts n u S) (v : Nat) (hv : v ≤ n) : 0 ≤ S.getD v 0 ∧ S.getD v 0 ≤ ts.length := by
  by_cases hu : v ≤ u
  · rw [h.2.1 v hu]; have := cnt_le ts (v : Int); omega
  · rw [h.2.2 v (by omega) hv]; have := eqc_le ts ((v : Int) - 1); omega

theorem L3.start {ts fs : List Int} {n : Nat} {S : List Int} (h : L2 ts n n S) : L3 ts fs n 0 (S.take n) (List.replicate ts.length 0) := by
  refine ⟨by rw [List.length_take, h.1]; omega, fun v hv => ?_, by simp, fun j hj => absurd hj (by omega)⟩
  have e : (S.take n).getD v 0 = S.getD v 0 := by simp [hv]
  rw [e, h.2.1 v (by omega)]
  simp [eqc]

theorem L3.at {ts fs : List Int} {n i : Nat} {Nx G : List Int} (h : L3 ts fs n i Nx G) (t : Nat) (ht : ts.getD i 0 = (t : Int)) (htn : t < n) : Nx.getD t 0 = (pos ts i : Int) := by
  rw [h.2.1 t htn]
  unfold pos
  rw [ht]
  omega

theorem L3.step {ts fs : List Int} {n i : Nat} {Nx G : List Int} (h : L3 ts fs n i Nx G) (hi : i < ts.length) (t : Nat) (ht : ts.getD i 0 = (t : Int)) (htn : t < n) :
    L3 ts fs n (i + 1) (Nx.set t ((pos ts i : Int) + 1)) (G.set (pos ts i) (fs.getD i 0)) := by
  have hat := h.at t ht htn
  have hpl := pos_lt ts i hi
  refine ⟨by rw [List.length_set]; exact h.1, fun v hv => ?_, by rw [List.length_set]; exact h.2.2.1, fun j hj => ?_⟩
  · have a := eqc_take_succ ts i hi (v : Int)
    rw [ht] at a
    by_cases e : v = t
    · subst e
      rw [getD_set_eq _ _ _ (by rw [h.1]; exact hv)]
      rw [if_pos rfl] at a
      have b := h.2.1 v hv
      omega
    · rw [getD_set_ne _ _ _ _ e, h.2.1 v hv, a, if_neg (by omega)]
      simp
  · by_cases e : j = i
    · subst e
      rw [getD_set_eq _ _ _ (by rw [h.2.2.1]; exact hpl)]
    · rw [getD_set_ne _ _ _ _ (pos_ne ts j i (by omega) hi)]
      exact h.2.2.2 j (by omega)

/-- what graph answers -/
structure Spec (ts fs : List Int) (n : Nat) (S G : List Int) : Prop where
  slen : S.length = n + 1
  sat : ∀ v : Nat, v ≤ n → S.getD v 0 = (cnt ts (v : Int) : Int)
  glen : G.length = ts.length
  gat : ∀ j, j < ts.length → G.getD (pos ts j) 0 = fs.getD j 0

theorem Spec.of {ts fs : List Int} {n : Nat} {S Nx G : List Int} (h2 : L2 ts n n S) (h3 : L3 ts fs n ts.length Nx G) : Spec ts fs n S G :=
  ⟨h2.1, h2.2.1, h3.2.2.1, h3.2.2.2⟩

/-! ### the law on two lists joined -/
theorem cnt_append (a b : List Int) (u : Int) : cnt (a ++ b) u = cnt a u + cnt b u := List.countP_append
theorem eqc_append (a b : List Int) (u : Int) : eqc (a ++ b) u = eqc a u + eqc b u := List.countP_append

theorem Among.append {a b : List Int} {n : Nat} (ha : Among a n) (hb : Among b n) : Among (a ++ b) n := fun x hx => by
  rcases List.mem_append.1 hx with h | h
  · exact ha x h
  · exact hb x h

/-- the k-th arc into u -/
theorem kth (ts : List Int) (u : Int) (k : Nat) (hk : k < eqc ts u) : ∃ j, j < ts.length ∧ ts.getD j 0 = u ∧ eqc (ts.take j) u = k := by
  induction ts generalizing k with
  | nil => simp [eqc] at hk
  | cons x r ih =>
    have hc : eqc (x :: r) u = eqc r u + if x = u then 1 else 0 := by unfold eqc; simp [List.countP_cons]
    by_cases hx : x = u
    · cases k with
      | zero => exact ⟨0, by simp, by simpa using hx, by simp [eqc]⟩
      | succ k =>
        rw [if_pos hx] at hc
        obtain ⟨j, h1, h2, h3⟩ := ih k (by omega)
        refine ⟨j + 1, by simpa using h1, by simpa using h2, ?_⟩
        rw [List.take_succ_cons]
        have : eqc (x :: r.take j) u = eqc (r.take j) u + if x = u then 1 else 0 := by unfold eqc; simp [List.countP_cons]
        rw [this, h3, if_pos hx]
    · rw [if_neg hx] at hc
      obtain ⟨j, h1, h2, h3⟩ := ih k (by omega)
      refine ⟨j + 1, by simpa using h1, by simpa using h2, ?_⟩
      rw [List.take_succ_cons]
      have : eqc (x :: r.take j) u = eqc (r.take j) u + if x = u then 1 else 0 := by unfold eqc; simp [List.countP_cons]
      rw [this, h3, if_neg hx]
      rfl

/-- what stands at the k-th place of u's list -/
theorem Spec.kth {ts fs : List Int} {n : Nat} {S G : List Int} (h : Spec ts fs n S G) (u k : Nat) (hu : u ≤ n) (j : Nat) (hj : j < ts.length) (ht : ts.getD j 0 = (u : Int)) (he : eqc (ts.take j) (u : Int) = k) :
    ∃ q : Nat, S.getD u 0 + (k : Int) = (q : Int) ∧ G.getD q 0 = fs.getD j 0 ∧ q < ts.length := by
  refine ⟨pos ts j, ?_, h.gat j hj, pos_lt ts j hj⟩
  rw [h.sat u hu]
  unfold pos
  rw [ht, he]
  omega

theorem Spec.diff {ts fs : List Int} {n : Nat} {S G : List Int} (h : Spec ts fs n S G) (u : Nat) (hu : u < n) : S.getD (u + 1) 0 - S.getD u 0 = (eqc ts (u : Int) : Int) := by
  rw [h.sat u (by omega), h.sat (u + 1) (by omega)]
  have c := cnt_succ ts (u : Int)
  have e2 : ((u + 1 : Nat) : Int) = (u : Int) + 1 := by omega
  rw [e2, c]
  omega

theorem Spec.bound {ts fs : List Int} {n : Nat} {S G : List Int} (h : Spec ts fs n S G) (v : Nat) (hv : v ≤ n) : 0 ≤ S.getD v 0 ∧ S.getD v 0 ≤ ts.length := by
  rw [h.sat v hv]; have := cnt_le ts (v : Int); omega

/-- the k-th of u's list in the joined graph: first list -/
theorem join1 {a b fa fb : List Int} {n : Nat} {S G S1 G1 : List Int} (h : Spec (a ++ b) (fa ++ fb) n S G) (h1 : Spec a fa n S1 G1) (hfa : fa.length = a.length) (u : Nat) (hu : u < n) (k : Nat) (hk : k < eqc a (u : Int)) :
    ∃ q q1 : Nat, S.getD u 0 + (k : Int) = (q : Int) ∧ S1.getD u 0 + (k : Int) = (q1 : Int) ∧ q < (a ++ b).length ∧ q1 < a.length ∧ G.getD q 0 = G1.getD q1 0 := by
  obtain ⟨j, hj, ht, he⟩ := Gr.kth a u k hk
  obtain ⟨q1, e1, g1, l1⟩ := h1.kth u k (by omega) j hj ht he
  have hj' : j < (a ++ b).length := by rw [List.length_append]; omega
  have ht' : (a ++ b).getD j 0 = (u : Int) := by
    rw [← ht]; simp [List.getElem?_append_left hj]
  have he' : eqc ((a ++ b).take j) (u : Int) = k := by
    rw [List.take_append_of_le_length (by omega)]; exact he
  obtain ⟨q, e, g, l⟩ := h.kth u k (by omega) j hj' ht' he'
  refine ⟨q, q1, e, e1, l, l1, ?_⟩
  rw [g, g1]
  have : j < fa.length := by omega
  simp [List.getElem?_append_left this]

/-- .. second list -/
theorem join2 {a b fa fb : List Int} {n : Nat} {S G S2 G2 : List Int} (h : Spec (a ++ b) (fa ++ fb) n S G) (h2 : Spec b fb n S2 G2) (hfa : fa.length = a.length) (u : Nat) (hu : u < n) (k : Nat) (hk : k < eqc b (u : Int)) :
    ∃ q q2 : Nat, S.getD u 0 + (eqc a (u : Int) : Int) + (k : Int) = (q : Int) ∧ S2.getD u 0 + (k : Int) = (q2 : Int) ∧ q < (a ++ b).length ∧ q2 < b.length ∧ G.getD q 0 = G2.getD q2 0 := by
  obtain ⟨j, hj, ht, he⟩ := Gr.kth b u k hk
  obtain ⟨q2, e1, g1, l1⟩ := h2.kth u k (by omega) j hj ht he
  have hj' : a.length + j < (a ++ b).length := by rw [List.length_append]; omega
  have ht' : (a ++ b).getD (a.length + j) 0 = (u : Int) := by
    rw [← ht]; simp [List.getElem?_append_right]
  have he' : eqc ((a ++ b).take (a.length + j)) (u : Int) = eqc a (u : Int) + k := by
    rw [List.take_append]
    have : a.take (a.length + j) = a := List.take_of_length_le (by omega)
    rw [this, eqc_append]
    have e3 : a.length + j - a.length = j := by omega
    rw [e3, he]
  obtain ⟨q, e, g, l⟩ := h.kth u (eqc a (u : Int) + k) (by omega) (a.length + j) hj' ht' he'
  refine ⟨q, q2, by omega, e1, l, l1, ?_⟩
  rw [g, g1]
  rw [← hfa]
  simp [List.getElem?_append_right]

end Go.Proofs.Qxb6604786a.Gr
