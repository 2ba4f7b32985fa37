import Derived.Test.Qxb6604786aGrPlain
namespace Go.Proofs.Qxb6604786a.Gr

/-- arc p stands ahead of arc q: by head, ties by number -/
def Ahead (ts : List Int) (p q : Nat) : Prop := ts.getD p 0 < ts.getD q 0 ∨ (ts.getD p 0 = ts.getD q 0 ∧ p < q)
def le (ts : List Int) (p q : Nat) : Bool := decide (ts.getD p 0 ≤ ts.getD q 0)

def aheadB (ts : List Int) (p q : Nat) : Bool := decide (ts.getD p 0 < ts.getD q 0 ∨ (ts.getD p 0 = ts.getD q 0 ∧ p < q))
theorem aheadB_iff (ts : List Int) (p q : Nat) : aheadB ts p q = true ↔ Ahead ts p q := by unfold aheadB Ahead; exact decide_eq_true_iff

theorem Ahead.trans {ts : List Int} {p q r : Nat} (h : Ahead ts p q) (k : Ahead ts q r) : Ahead ts p r := by
  unfold Ahead at *; omega

theorem merge_sorted (ts : List Int) (L R : List Nat) (hL : L.Pairwise (Ahead ts)) (hR : R.Pairwise (Ahead ts)) (hLR : ∀ x ∈ L, ∀ y ∈ R, x < y) : (L.merge R (le ts)).Pairwise (Ahead ts) := by
  induction L generalizing R with
  | nil => simpa using hR
  | cons x xs ihL =>
    induction R with
    | nil => simpa using hL
    | cons y ys ihR =>
      have hx := List.pairwise_cons.1 hL
      have hy := List.pairwise_cons.1 hR
      have hxy := hLR x (by simp) y (by simp)
      by_cases h : le ts x y = true
      · rw [List.cons_merge_cons_pos _ _ _ h]
        have hle : ts.getD x 0 ≤ ts.getD y 0 := by simpa [le] using h
        have lxy : Ahead ts x y := by unfold Ahead; omega
        refine List.pairwise_cons.2 ⟨fun z hz => ?_, ihL (y :: ys) hx.2 hR (fun a ha b hb => hLR a (List.mem_cons_of_mem _ ha) b hb)⟩
        rcases List.mem_merge.1 hz with hz | hz
        · exact hx.1 z hz
        · rcases List.mem_cons.1 hz with rfl | hz
          · exact lxy
          · exact lxy.trans (hy.1 z hz)
      · rw [List.cons_merge_cons_neg _ _ _ h]
        have hlt : ts.getD y 0 < ts.getD x 0 := by simp [le] at h; simpa using h
        have lyx : Ahead ts y x := .inl hlt
        refine List.pairwise_cons.2 ⟨fun z hz => ?_, ihR hy.2 (fun a ha b hb => hLR a ha b (List.mem_cons_of_mem _ hb))⟩
        rcases List.mem_merge.1 hz with hz | hz
        · rcases List.mem_cons.1 hz with rfl | hz
          · exact lyx
          · exact lyx.trans (hx.1 z hz)
        · exact hy.1 z hz

/-! ### stretches of a list -/
def blk (A : List Nat) (s e : Nat) : List Nat := (A.drop s).take (e - s)

theorem blk_nil (A : List Nat) (s : Nat) : blk A s s = [] := by simp [blk]

theorem blk_cons (A : List Nat) (s e : Nat) (h : s < e) (he : e ≤ A.length) : blk A s e = A.getD s 0 :: blk A (s + 1) e := by
  unfold blk
  have hs : s < A.length := by omega
  rw [List.drop_eq_getElem_cons hs]
  have : e - s = (e - (s + 1)) + 1 := by omega
  rw [this, List.take_succ_cons]
  simp [hs]

theorem blk_snoc (b : List Nat) (lo k v : Nat) (h : lo ≤ k) (hk : k < b.length) : blk (b.set k v) lo (k + 1) = blk b lo k ++ [v] := by
  unfold blk
  apply List.ext_getElem?
  intro i
  rw [List.getElem?_take, List.getElem?_drop]
  by_cases h1 : i < k + 1 - lo
  · rw [if_pos h1]
    by_cases h2 : i < k - lo
    · rw [List.getElem?_append_left (by simp; omega), List.getElem?_take, if_pos h2, List.getElem?_drop, List.getElem?_set_ne (by omega)]
    · obtain rfl : i = k - lo := by omega
      have e : lo + (k - lo) = k := by omega
      rw [e, List.getElem?_set_self hk, List.getElem?_append_right (by simp; omega)]
      have : k - lo - ((b.drop lo).take (k - lo)).length = 0 := by simp; omega
      rw [this]; rfl
  · rw [if_neg h1, List.getElem?_eq_none]
    simp; omega

theorem blk_take {b b' : List Nat} {lo s e : Nat} (h : b.take lo = b'.take lo) (he : e ≤ lo) : blk b s e = blk b' s e := by
  unfold blk
  apply List.ext_getElem?
  intro i
  rw [List.getElem?_take, List.getElem?_take, List.getElem?_drop, List.getElem?_drop]
  by_cases h1 : i < e - s
  · rw [if_pos h1, if_pos h1]
    have := congrArg (fun l => l[s + i]?) h
    simp only [List.getElem?_take] at this
    rw [if_pos (by omega), if_pos (by omega)] at this
    exact this
  · rw [if_neg h1, if_neg h1]

/-! ### one merge -/
/-- where the innermost loop stands: k of b are laid, i and j are its hands in a -/
structure Hand (ts : List Int) (A b0 b : List Nat) (lo mid hi i j k : Nat) : Prop where
  h1 : lo ≤ i
  h2 : i ≤ mid
  h3 : mid ≤ j
  h4 : j ≤ hi
  h5 : hi ≤ A.length
  h6 : k + mid = i + j
  h7 : b.length = A.length
  same : b.take lo = b0.take lo
  done : blk b lo k ++ (blk A i mid).merge (blk A j hi) (le ts) = (blk A lo mid).merge (blk A mid hi) (le ts)

theorem Hand.start (ts : List Int) (A b : List Nat) (lo mid hi : Nat) (h1 : lo ≤ mid) (h2 : mid ≤ hi) (h3 : hi ≤ A.length) (h4 : b.length = A.length) : Hand ts A b b lo mid hi lo mid lo :=
  ⟨Nat.le_refl _, h1, Nat.le_refl _, h2, h3, rfl, h4, rfl, by rw [blk_nil]; rfl⟩

theorem Hand.left {ts : List Int} {A b0 b : List Nat} {lo mid hi i j k : Nat} (h : Hand ts A b0 b lo mid hi i j k) (hi1 : i < mid) (hor : hi ≤ j ∨ ts.getD (A.getD i 0) 0 ≤ ts.getD (A.getD j 0) 0) :
    Hand ts A b0 (b.set k (A.getD i 0)) lo mid hi (i + 1) j (k + 1) := by
  have a1 := h.h1
  have a2 := h.h2
  have a3 := h.h3
  have a4 := h.h4
  have a5 := h.h5
  have a6 := h.h6
  have a7 := h.h7
  refine ⟨by omega, by omega, a3, a4, a5, by omega, by rw [List.length_set]; exact a7, ?_, ?_⟩
  · rw [List.take_set_of_le (by omega)]; exact h.same
  · rw [blk_snoc b lo k _ (by omega) (by omega), ← h.done, blk_cons A i mid hi1 (by omega), List.append_assoc]
    congr 1
    by_cases hj : j < hi
    · have hle : le ts (A.getD i 0) (A.getD j 0) = true := by
        unfold le
        rcases hor with h | h
        · omega
        · simpa using h
      rw [blk_cons A j hi hj (by omega), List.cons_merge_cons_pos _ _ _ hle]
      rfl
    · have : blk A j hi = [] := by obtain rfl : j = hi := by omega
                                   exact blk_nil A j
      rw [this]
      simp

theorem Hand.right {ts : List Int} {A b0 b : List Nat} {lo mid hi i j k : Nat} (h : Hand ts A b0 b lo mid hi i j k) (hj : j < hi) (hor : mid ≤ i ∨ ts.getD (A.getD j 0) 0 < ts.getD (A.getD i 0) 0) :
    Hand ts A b0 (b.set k (A.getD j 0)) lo mid hi i (j + 1) (k + 1) := by
  have a1 := h.h1
  have a2 := h.h2
  have a3 := h.h3
  have a4 := h.h4
  have a5 := h.h5
  have a6 := h.h6
  have a7 := h.h7
  refine ⟨a1, a2, by omega, by omega, a5, by omega, by rw [List.length_set]; exact a7, ?_, ?_⟩
  · rw [List.take_set_of_le (by omega)]; exact h.same
  · rw [blk_snoc b lo k _ (by omega) (by omega), ← h.done, blk_cons A j hi hj (by omega), List.append_assoc]
    congr 1
    by_cases hm : i < mid
    · have hle : ¬ le ts (A.getD i 0) (A.getD j 0) = true := by
        unfold le
        rcases hor with h | h
        · omega
        · simp; simpa using h
      rw [blk_cons A i mid hm (by omega), List.cons_merge_cons_neg _ _ _ hle]
      rfl
    · have : blk A i mid = [] := by obtain rfl : i = mid := by omega
                                    exact blk_nil A i
      rw [this]
      simp

/-- a stretch is in order, and holds its own numbers -/
def Good (ts : List Int) (A : List Nat) (s e : Nat) : Prop := (blk A s e).Pairwise (Ahead ts) ∧ (blk A s e).Perm (List.range' s (e - s))

theorem Hand.good {ts : List Int} {A b0 b : List Nat} {lo mid hi i j : Nat} (h : Hand ts A b0 b lo mid hi i j hi) (g1 : Good ts A lo mid) (g2 : Good ts A mid hi) : Good ts b lo hi := by
  have a1 := h.h1
  have a2 := h.h2
  have a3 := h.h3
  have a4 := h.h4
  have a5 := h.h5
  have a6 := h.h6
  obtain rfl : i = mid := by omega
  obtain rfl : j = hi := by omega
  have e := h.done
  rw [blk_nil, blk_nil] at e
  have e2 : blk b lo j = (blk A lo i).merge (blk A i j) (le ts) := by rw [← e]; simp
  unfold Good
  rw [e2]
  constructor
  · refine merge_sorted ts _ _ g1.1 g2.1 (fun x hx y hy => ?_)
    have mx := g1.2.mem_iff.1 hx
    have my := g2.2.mem_iff.1 hy
    rw [List.mem_range'_1] at mx my
    omega
  · refine (List.merge_perm_append (le ts)).trans ?_
    refine (g1.2.append g2.2).trans ?_
    have : List.range' lo (j - lo) = List.range' lo (i - lo) ++ List.range' i (j - i) := by
      have e1 : j - lo = (i - lo) + (j - i) := by omega
      have e2 : lo + (i - lo) = i := by omega
      rw [e1, ← List.range'_append_1, e2]
    rw [this]

theorem Good.take {ts : List Int} {b b' : List Nat} {lo s e : Nat} (g : Good ts b' s e) (h : b.take lo = b'.take lo) (he : e ≤ lo) : Good ts b s e := by
  unfold Good at *
  rw [blk_take h he]
  exact g

/-! ### a pass, and all passes -/
def Runs (ts : List Int) (A : List Nat) (m wd : Nat) : Prop := ∀ s, wd ∣ s → s < m → Good ts A s (min (s + wd) m)
/-- the stretches of b below lo are merged -/
def Upto (ts : List Int) (b : List Nat) (m wd lo : Nat) : Prop := ∀ s, 2 * wd ∣ s → s < lo → s < m → Good ts b s (min (s + 2 * wd) m)

theorem Upto.start (ts : List Int) (b : List Nat) (m wd : Nat) : Upto ts b m wd 0 := fun s _ h => absurd h (by omega)

theorem Upto.step {ts : List Int} {A b0 b : List Nat} {m wd lo i j : Nat} (hr : Runs ts A m wd) (hu : Upto ts b0 m wd lo) (hd : 2 * wd ∣ lo) (hlo : lo < m)
    (hh : Hand ts A b0 b lo (min (lo + wd) m) (min (lo + 2 * wd) m) i j (min (lo + 2 * wd) m)) : Upto ts b m wd (lo + 2 * wd) := by
  have d1 : wd ∣ 2 * wd := ⟨2, by omega⟩
  have d2 : wd ∣ lo := Nat.dvd_trans d1 hd
  have g1 : Good ts A lo (min (lo + wd) m) := hr lo d2 hlo
  have g2 : Good ts A (min (lo + wd) m) (min (lo + 2 * wd) m) := by
    by_cases hlt : lo + wd < m
    · have e1 : min (lo + wd) m = lo + wd := Nat.min_eq_left (by omega)
      rw [e1]
      have := hr (lo + wd) (Nat.dvd_add d2 (Nat.dvd_refl _)) hlt
      have e2 : lo + wd + wd = lo + 2 * wd := by omega
      rw [e2] at this
      exact this
    · have e1 : min (lo + wd) m = m := Nat.min_eq_right (by omega)
      have e2 : min (lo + 2 * wd) m = m := Nat.min_eq_right (by omega)
      rw [e1, e2]
      unfold Good
      rw [blk_nil]
      simp
  have gg := hh.good g1 g2
  intro s hs h1 h2
  by_cases hlt : s < lo
  · have hle : s + 2 * wd ≤ lo := by
      obtain ⟨c, rfl⟩ := hs
      obtain ⟨d, rfl⟩ := hd
      have : c < d := Nat.lt_of_mul_lt_mul_left hlt
      have h3 : 2 * wd * (c + 1) ≤ 2 * wd * d := Nat.mul_le_mul_left _ this
      rw [Nat.mul_succ] at h3
      exact h3
    exact (hu s hs hlt h2).take hh.same (Nat.le_trans (Nat.min_le_left _ _) hle)
  · have hz : s - lo = 0 := Nat.eq_zero_of_dvd_of_lt (Nat.dvd_sub hs hd) (by omega)
    obtain rfl : s = lo := by omega
    exact gg

theorem Upto.runs {ts : List Int} {b : List Nat} {m wd lo : Nat} (h : Upto ts b m wd lo) (hlo : m ≤ lo) : Runs ts b m (wd * 2) := fun s hs hm => by
  rw [Nat.mul_comm] at hs ⊢
  exact h s hs (by omega) hm

theorem Runs.start (ts : List Int) (m : Nat) : Runs ts (List.range m) m 1 := fun s _ hs => by
  have e : min (s + 1) m = s + 1 := Nat.min_eq_left (by omega)
  rw [e]
  unfold Good
  rw [blk_cons _ _ _ (by omega) (by simp; omega), blk_nil]
  have : s + 1 - s = 1 := by omega
  rw [this]
  simp [hs]

theorem Runs.lt {ts : List Int} {A : List Nat} {m wd : Nat} (h : Runs ts A m wd) (hw : 0 < wd) (hA : A.length = m) (i : Nat) (hi : i < m) : A.getD i 0 < m := by
  have d := Nat.div_add_mod i wd
  have r := Nat.mod_lt i hw
  obtain ⟨s, hs⟩ : ∃ s, wd * (i / wd) = s := ⟨_, rfl⟩
  rw [hs] at d
  have g := h s ⟨i / wd, hs.symm⟩ (by omega)
  have e1 : s ≤ i := by omega
  have e2 : i < min (s + wd) m := by omega
  have hm : A.getD i 0 ∈ blk A s (min (s + wd) m) := by
    unfold blk
    apply List.mem_of_getElem? (i := i - s)
    rw [List.getElem?_take, if_pos (by omega), List.getElem?_drop]
    have : s + (i - s) = i := by omega
    rw [this]
    have hl : i < A.length := by omega
    simp [hl]
  have := g.2.mem_iff.1 hm
  rw [List.mem_range'_1] at this
  omega

/-- sorted: what the order is -/
def Sorted (ts : List Int) (A : List Nat) : Prop := A.Pairwise (Ahead ts) ∧ A.Perm (List.range ts.length)

theorem Runs.sorted {ts : List Int} {A : List Nat} {m wd : Nat} (h : Runs ts A m wd) (hA : A.length = m) (hm : ts.length = m) (hw : m ≤ wd) : Sorted ts A := by
  unfold Sorted
  rw [hm]
  by_cases h0 : m = 0
  · subst h0
    obtain rfl : A = [] := List.eq_nil_of_length_eq_zero hA
    simp
  · have := h 0 ⟨0, rfl⟩ (by omega)
    have e : min (0 + wd) m = m := Nat.min_eq_right (by omega)
    rw [e] at this
    unfold Good at this
    have e2 : blk A 0 m = A := by unfold blk; rw [List.drop_zero, Nat.sub_zero, ← hA, List.take_length]
    rw [e2, Nat.sub_zero, ← List.range_eq_range'] at this
    exact this

/-! ### the place of an arc in the order -/
theorem count_ahead {ts : List Int} {A : List Nat} (h : A.Pairwise (Ahead ts)) (k : Nat) (hk : k < A.length) :
    A.countP (fun y => aheadB ts y A[k]) = k := by
  have e : A = A.take k ++ A[k] :: A.drop (k + 1) := by
    rw [← List.drop_eq_getElem_cons hk, List.take_append_drop]
  have hp := h
  rw [e] at hp
  obtain ⟨_, p2, p3⟩ := List.pairwise_append.1 hp
  obtain ⟨p4, _⟩ := List.pairwise_cons.1 p2
  have c1 : (A.take k).countP (fun y => aheadB ts y A[k]) = k := by
    have : (A.take k).length = k := by simp; omega
    rw [List.countP_eq_length.2 (fun y hy => (aheadB_iff _ _ _).2 (p3 y hy A[k] (List.mem_cons_self ..))), this]
  have c2 : (A.drop (k + 1)).countP (fun y => aheadB ts y A[k]) = 0 := by
    rw [List.countP_eq_zero]
    intro y hy
    have := p4 y hy
    rw [aheadB_iff]
    unfold Ahead at *
    omega
  have c3 : aheadB ts A[k] A[k] = false := by unfold aheadB; simp
  have : A.countP (fun y => aheadB ts y A[k]) = (A.take k ++ A[k] :: A.drop (k + 1)).countP (fun y => aheadB ts y A[k]) := congrArg (List.countP _) e
  rw [this, List.countP_append, List.countP_cons, c1, c2, c3]
  simp

theorem countP_range (ts : List Int) (p : Int → Bool) : (List.range ts.length).countP (fun y => p (ts.getD y 0)) = ts.countP p := by
  induction ts with
  | nil => rfl
  | cons x r ih =>
    rw [List.length_cons, List.range_succ_eq_map, List.countP_cons, List.countP_map, List.countP_cons, ← ih]
    congr 1

theorem count_range (ts : List Int) (x : Nat) (hx : x < ts.length) : (List.range ts.length).countP (fun y => aheadB ts y x) = pos ts x := by
  unfold pos cnt eqc
  have h1 : (List.range ts.length).countP (fun y => aheadB ts y x) = (List.range ts.length).countP (fun y => decide (ts.getD y 0 < ts.getD x 0)) + (List.range ts.length).countP (fun y => decide (ts.getD y 0 = ts.getD x 0 ∧ y < x)) := by
    induction (List.range ts.length) with
    | nil => rfl
    | cons y r ih =>
      simp only [List.countP_cons, ih]
      unfold aheadB
      by_cases a : ts.getD y 0 < ts.getD x 0
      · have b : ¬ (ts.getD y 0 = ts.getD x 0 ∧ y < x) := by omega
        simp only [a, b, true_or, decide_true, decide_false]; simp; omega
      · by_cases b : ts.getD y 0 = ts.getD x 0 ∧ y < x
        · simp only [b]; simp; omega
        · simp only [a, b, false_or]; simp
  have h2 : (List.range ts.length).countP (fun y => decide (ts.getD y 0 = ts.getD x 0 ∧ y < x)) = (ts.take x).countP (fun v => decide (v = ts.getD x 0)) := by
    have e : (List.range ts.length) = List.range x ++ List.range' x (ts.length - x) := by
      rw [List.range_eq_range', List.range_eq_range']
      have e1 : ts.length = x + (ts.length - x) := by omega
      conv => lhs; rw [e1]
      have := List.range'_append_1 (s := 0) (m := x) (n := ts.length - x)
      rw [Nat.zero_add] at this
      exact this.symm
    rw [e, List.countP_append]
    have z : (List.range' x (ts.length - x)).countP (fun y => decide (ts.getD y 0 = ts.getD x 0 ∧ y < x)) = 0 := by
      rw [List.countP_eq_zero]
      intro y hy
      rw [List.mem_range'_1] at hy
      simp; omega
    rw [z, Nat.add_zero]
    have hl : (ts.take x).length = x := by simp; omega
    have := countP_range (ts.take x) (fun v => decide (v = ts.getD x 0))
    rw [hl] at this
    rw [← this]
    apply List.countP_congr
    intro y hy
    have hy2 : y < x := by simpa using hy
    have : (ts.take x).getD y 0 = ts.getD y 0 := by simp [hy2]
    rw [this]
    simp [hy2]
  rw [h1, h2, countP_range ts (fun v => decide (v < ts.getD x 0))]

/-- the order's k-th arc has the place k -/
theorem Sorted.pos {ts : List Int} {A : List Nat} (h : Sorted ts A) (k : Nat) (hk : k < ts.length) : A.getD k 0 < ts.length ∧ Gr.pos ts (A.getD k 0) = k := by
  have hl : A.length = ts.length := by rw [h.2.length_eq]; simp
  have hk2 : k < A.length := by omega
  have e : A.getD k 0 = A[k] := by simp [hk2]
  rw [e]
  have hm : A[k] < ts.length := by
    have := h.2.mem_iff.1 (List.getElem_mem hk2)
    simpa using this
  refine ⟨hm, ?_⟩
  rw [← count_range ts _ hm, ← h.2.countP_eq]
  exact count_ahead h.1 k hk2

theorem Sorted.below {ts : List Int} {A : List Nat} (h : Sorted ts A) (k : Nat) (hk : k < ts.length) (u : Int) : ts.getD (A.getD k 0) 0 < u ↔ k < cnt ts u := by
  obtain ⟨h1, h2⟩ := h.pos k hk
  constructor
  · intro hlt
    have a := pos_lt_next ts (A.getD k 0) h1
    have b := cnt_mono ts (ts.getD (A.getD k 0) 0 + 1) u (by omega)
    omega
  · intro hlt
    apply Classical.byContradiction
    intro hn
    have a := cnt_mono ts u (ts.getD (A.getD k 0) 0) (by omega)
    have b : cnt ts (ts.getD (A.getD k 0) 0) ≤ Gr.pos ts (A.getD k 0) := Nat.le_add_right _ _
    omega

end Go.Proofs.Qxb6604786a.Gr
