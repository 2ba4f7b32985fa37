import Derived.Test.Qxb6604293aScKit
namespace Go.Proofs.Qxb6604293a.Sc
open Go.RowKit

def allLe (Q P : List Int) : Bool := (List.range Q.length).all fun t => decide (Q.getD t 0 ≤ P.getD t 0)
theorem allLe_iff (Q P : List Int) : allLe Q P = true ↔ ∀ t, t < Q.length → Q.getD t 0 ≤ P.getD t 0 := by simp [allLe]

theorem or_step {Q P : List Int} {t : Nat} {s x y : Int} (hs : -9223372036854775808 ≤ s ∧ s ≤ 9223372036854775807) (h : 0 ≤ s ↔ ∀ j, j < t → Q.getD j 0 ≤ P.getD j 0)
    (X : P.getD t 0 = x) (Y : Q.getD t 0 = y) (hd : -9223372036854775808 ≤ x - y ∧ x - y ≤ 9223372036854775807) :
    0 ≤ bits .or .i64 s (x - y) ↔ ∀ j, j < t + 1 → Q.getD j 0 ≤ P.getD j 0 := by
  rw [or_nn _ _ hs hd, h]
  constructor
  · rintro ⟨h1, h2⟩ j hj
    by_cases e : j = t
    · subst e; rw [X, Y]; omega
    · exact h1 j (by omega)
  · intro h1
    refine ⟨fun j hj => h1 j (by omega), ?_⟩
    have := h1 t (by omega)
    rw [X, Y] at this; omega

set_option maxHeartbeats 400000 in
theorem atLeast_any (a0 a1 : Option Addr) (W cp cq : Nat) (P Q : List Int) (w : World) (hP : Row w a0 P) (hQ : Row w a1 Q) (hlp : P.length = W) (hlq : Q.length = W) (h0 : 0 < W) (hcq : W ≤ cq) (hm : cq ≤ maxLen) (nP : Nn P) (nQ : Nn Q) :
    Calls Try.prog 30 #[.slice a0 W cp, .slice a1 W cq] w fun e w' => e = .returned (.bool (allLe Q P)) ∧ ∃ n, w' = w.drewN n := by
  unfold maxLen at hm
  obtain ⟨b0, o0, rfl, hb0, hc0⟩ := hP.at (k := 0) (by omega)
  obtain ⟨b1, o1, rfl, hb1, hc1⟩ := hQ.at (k := 0) (by omega)
  have hz : ¬ cq = 0 := by omega
  go_enter Try.func30, Try.ntmps30
  go_wp2
  go_loopw [5, 13] (fun sv iv wr => ∃ (t n : Nat) (s : Int), t ≤ W ∧ iv = .int .i64 t ∧ sv = .int .i64 s ∧ (-9223372036854775808 ≤ s ∧ s ≤ 9223372036854775807) ∧ (0 ≤ s ↔ ∀ j, j < t → Q.getD j 0 ≤ P.getD j 0) ∧ wr = w.drewN n) (fun _ iv _ => W - (intOf iv).toNat)
  case atStart => exact ⟨0, 0, 0, Nat.zero_le _, rfl, rfl, by omega, by simp, rfl⟩
  case round =>
    obtain ⟨t, n, s, ht, rfl, rfl, hs, hiff, rfl⟩ := hrel
    have HI : Hid (0 ≤ s ↔ ∀ j, j < t → Q.getD j 0 ≤ P.getD j 0) := hiff
    clear hiff
    by_cases hlt : t < W
    · obtain ⟨x, cx, X⟩ := hc0.get t (by omega)
      obtain ⟨y, cy, Y⟩ := hc1.get t (by omega)
      have nx := nP t
      have ny := nQ t
      rw [X.out] at nx
      rw [Y.out] at ny
      go_wp2
      go_quiet (fail)
      go_wp2
      go_roundw
      case rel => exact ⟨t + 1, _, bits .or .i64 s (x - y), by omega, by go_num, rfl, or_range _ _, or_step hs HI.out X.out Y.out (by omega), rfl⟩
      case measure => simp [intOf]; omega
    · obtain rfl : t = W := by omega
      have he : (decide (0 ≤ s)) = allLe Q P := by
        rw [Bool.eq_iff_iff, allLe_iff, decide_eq_true_iff, hlq]
        exact HI.out
      go_wp2
      go_ret
      rw [← he]
      exact ⟨rfl, _, rfl⟩

theorem At.take {w : World} {F R : List Int} {a : Option Addr} {g c i : Nat} (h : At w F R a g c i) (hg : R.length ≤ g) : Row w a ((F.drop (i * R.length)).take R.length) ∧ ((F.drop (i * R.length)).take R.length).length = R.length := by
  have hl := h.len
  constructor
  · rcases h.row with hn | ⟨b, off, rfl, hb, hc⟩
    · left; rw [hn]; simp
    · refine .inr ⟨b, off, rfl, hb, fun j hj => ?_⟩
      have hj2 : j < R.length := by rw [List.length_take] at hj; omega
      rw [hc j (by omega)]
      simp [hj2]
  · rw [List.length_take]; omega

theorem Nn.take {xs : List Int} (h : Nn xs) (k : Nat) : Nn (xs.take k) := fun j => by
  by_cases hj : j < k
  · have := h j; simpa [hj] using this
  · simp [List.getElem?_take, hj]

theorem allLe_yes {F R : List Int} {i : Nat} (h : allLe R ((F.drop (i * R.length)).take R.length) = true) : ∀ t, t < R.length → R.getD t 0 ≤ (F.drop (i * R.length)).getD t 0 := by
  intro t ht
  have := (allLe_iff _ _).1 h t ht
  simpa [List.getElem?_take, ht] using this

theorem allLe_not {F R : List Int} {i : Nat} (h : allLe R ((F.drop (i * R.length)).take R.length) = false) : ∃ t, t < R.length ∧ (F.drop (i * R.length)).getD t 0 < R.getD t 0 := by
  apply Classical.byContradiction
  intro hn
  have : allLe R ((F.drop (i * R.length)).take R.length) = true := (allLe_iff _ _).2 fun t ht => by
    have : ¬ (F.drop (i * R.length)).getD t 0 < R.getD t 0 := fun hh => hn ⟨t, ht, hh⟩
    have e : ((F.drop (i * R.length)).take R.length).getD t 0 = (F.drop (i * R.length)).getD t 0 := by simp [ht]
    rw [e]; omega
  rw [h] at this
  cases this
theorem clone_nil (w : World) : Calls Try.prog 10 #[.slice none 0 0] w fun e w' => e = .returned (.slice none 0 0) ∧ w' = w := by
  have hq := fun w => Lib.run_eql_slice_nil (P := Try.prog) w 22 2 none 0 0 0 0 Try.underlying22
  go_enter Try.func10, Try.ntmps10
  go_wp2
  go_ret
  exact ⟨rfl, rfl⟩

set_option maxHeartbeats 400000 in
theorem clone_some (ad : Addr) (len cap : Nat) (xs : List Int) (w : World) (hl : xs.length = len) (hm : len ≤ 1048576) (hr : Row w (some ad) xs) :
    Calls Try.prog 10 #[.slice (some ad) len cap] w fun e w' => e = .returned (.slice (some ⟨w.heap.size, 0, none⟩) len len) ∧ Row w' (some ⟨w.heap.size, 0, none⟩) xs ∧ Below w.heap.size w w' := by
  have hq := fun w => Lib.run_eql_slice_nil (P := Try.prog) w 22 2 (some ad) len cap 0 0 Try.underlying22
  obtain ⟨i0, hi, hz0, hz1, hz2⟩ := info_parts Try.info2
  go_enter Try.func10, Try.ntmps10
  go_wp2_with (refine wpList_make_full _ rfl _ _ 22 rfl w.heap.size 2 i0 (.int .i64 0) 1 Try.underlying22 hi hz0 hz1 _ _ _ _ len rfl rfl rfl rfl ?_ ?_ ?_ ?_)
  · rw [hz2]; omega
  · unfold maxLen; omega
  · exact Nat.le_refl _
  · intro w1 hown hg
    rw [made_zeros] at hown
    have hbel : Below w.heap.size w w1 := below_grown0 (Below.refl _ _) hg (Nat.le_refl _)
    clear hg hz0 hz1 hz2 hi
    go_wp2
    go_loopw [4] (fun i wr => ∃ (k : Nat) (ys : List Int), k ≤ len ∧ i = .int .i64 k ∧ ys.length = len ∧ (∀ j, j < k → ys.getD j 0 = xs.getD j 0) ∧
      wr.ownsRow w.heap.size 2 1 (.slice (some ⟨w.heap.size, 0, none⟩) len len) len (ys.map (Value.int .i64)) ∧ Below w.heap.size w wr) (fun i _ => len - (intOf i).toNat)
    case atStart => exact ⟨0, _, Nat.zero_le _, rfl, by simp, fun j h => absurd h (by omega), hown, hbel⟩
    case round =>
      clear hown hbel
      obtain ⟨k, ys, hk, rfl, hyl, hys, hown, hbel⟩ := hrel
      by_cases hlt : k < len
      · obtain ⟨b, off, had, hb, hc⟩ := hr.at (k := k) (by omega)
        obtain rfl : ad = ⟨b, off, none⟩ := Option.some.inj had
        obtain ⟨x, c1, X⟩ := hc.get k (by omega)
        have c1' : wr.cell? ⟨b, off + k, none⟩ = some (.int .i64 x) := (hbel.cell (by exact hb)).trans c1
        have c2 := own_get hown k hlt
        have c3 := hown.frozenAt k
        have R := own_set hown k x
        have R2 := hbel.setCell (p := ⟨w.heap.size, k, none⟩) (Nat.le_refl _) (.int .i64 x)
        have Y : Hid (ys.length = len) := hyl
        clear hyl hown hbel c1
        go_wp2
        go_roundw
        case rel =>
          refine ⟨k + 1, ys.set k x, by omega, by go_num, by rw [List.length_set]; exact Y.out, fun j hj => ?_, R, R2⟩
          by_cases e : j = k
          · subst e; rw [getD_set_eq _ _ _ (by rw [Y.out]; exact hlt), X.out]
          · rw [getD_set_ne _ _ _ _ e]; exact hys j (by omega)
        case measure => simp [intOf]; omega
      · go_wp2
        go_ret
        obtain rfl : ys = xs := eq_of_getD (by omega) (fun j hj => hys j (by omega))
        exact ⟨rfl, own_row hown, hbel⟩

theorem clone (a : Option Addr) (len cap : Nat) (xs : List Int) (w : World) (h : Sl w a len cap xs) (hm : len ≤ 1048576) :
    Calls Try.prog 10 #[.slice a len cap] w fun e w' => ∃ a', e = .returned (.slice a' len len) ∧ Sl w' a' len len xs ∧ Below w.heap.size w w' := by
  cases a with
  | none =>
    obtain ⟨rfl, rfl⟩ := h.nil rfl
    refine (clone_nil w).mono fun e w' ⟨he, hw⟩ => ?_
    subst hw
    exact ⟨none, he, h, Below.refl _ _⟩
  | some ad =>
    refine (clone_some ad len cap xs w h.size hm h.row).mono fun e w' ⟨he, hr, hb⟩ => ?_
    exact ⟨_, he, ⟨fun h => (by cases h), hr, h.size, h.max, h.fit⟩, hb⟩

theorem bytes8 (a0 a1 : Option Addr) (l0 c0 l1 c1 : Nat) (w : World) (h0 : l0 ≤ maxLen) (h1 : l1 ≤ maxLen) :
    Calls Try.prog 8 #[.slice a0 l0 c0, .slice a1 l1 c1] w fun e w' => ∃ r : Bool, e = .returned (.bool r) ∧ w' = w := by
  unfold maxLen at h0 h1
  go_enter Try.func8, Try.ntmps8
  go_wp2
  all_goals (go_ret; exact ⟨_, rfl, rfl⟩)

theorem bytes13 (a0 a1 : Option Addr) (l0 c0 l1 c1 : Nat) (w : World) (h0 : l0 ≤ maxLen) (h1 : l1 ≤ maxLen) :
    Calls Try.prog 13 #[.slice a0 l0 c0, .slice a1 l1 c1] w fun e w' => ∃ r : Bool, e = .returned (.bool r) ∧ w' = w := by
  unfold maxLen at h0 h1
  go_enter Try.func13, Try.ntmps13
  go_wp2
  all_goals (go_ret; exact ⟨_, rfl, rfl⟩)

def NoNeg (xs : List Int) : Prop := ∀ j, j < xs.length → 0 ≤ xs.getD j 0

theorem nonneg (a : Option Addr) (len cap : Nat) (xs : List Int) (w : World) (hl : xs.length = len) (hm : len ≤ maxLen) (hr : Row w a xs) :
    Calls Try.prog 9 #[.slice a len cap] w fun e w' => ∃ r : Bool, e = .returned (.bool r) ∧ (r = true → NoNeg xs) ∧ w' = w := by
  unfold maxLen at hm
  go_enter Try.func9, Try.ntmps9
  go_wp2
  go_loop [3] (fun i => ∃ k : Nat, k ≤ len ∧ i = .int .i64 k ∧ (∀ j, j < k → 0 ≤ xs.getD j 0)) (fun i => len - (intOf i).toNat)
  case atStart => exact ⟨0, Nat.zero_le _, rfl, fun j h => absurd h (by omega)⟩
  case round =>
    obtain ⟨k, hk, rfl, hn⟩ := hrel
    by_cases hlt : k < len
    · obtain ⟨b, off, rfl, hb, hc⟩ := hr.at (k := k) (by omega)
      obtain ⟨x, cx, X⟩ := hc.get k (by omega)
      by_cases hx : x < 0
      · go_wp2
        go_ret
        exact .inl ⟨rfl, rfl⟩
      · go_wp2
        go_round
        case rel =>
          refine ⟨k + 1, by omega, by go_num, fun j hj => ?_⟩
          by_cases e : j = k
          · subst e; rw [X.out]; omega
          · exact hn j (by omega)
        case measure => simp [intOf]; omega
    · go_wp2
      go_ret
      exact .inr ⟨rfl, fun j hj => hn j (by omega), rfl⟩

/-- what the two tests give -/
theorem Nn.of {w : World} {a : Option Addr} {len cap : Nat} {xs : List Int} (h : Sl w a len cap xs) (hn : NoNeg xs) : Nn xs := fun j => by
  by_cases hj : j < xs.length
  · refine ⟨hn j hj, ?_⟩
    have := bounds_i64 (h.fit (xs.getD j 0) (by simp [hj]))
    exact this.2
  · simp [hj]

set_option maxHeartbeats 400000 in
theorem covers_any (a0 a1 : Option Addr) (lf cf cr i W p : Nat) (F R : List Int) (w : World) (hF : Row w a0 F) (hR : Row w a1 R) (hlf : F.length = lf) (hlr : R.length = W) (hm : lf ≤ 1048576) (hW : W ≤ 1048576) (h0 : 0 < W) (hp : i * W = p) (hpl : p + W ≤ lf) :
    Calls Try.prog 15 #[.slice a0 lf cf, .int .i64 i, .int .i64 W, .slice a1 W cr] w fun e w' => e = .returned (.bool (cov F R i)) ∧ ∃ n, w' = w.drewN n := by
  have hq : (i : Int) * (W : Int) = (p : Int) := by rw [← hp]; simp
  have HP : Hid (i * W = p) := hp
  have HL : Hid (R.length = W) := hlr
  have hlr2 : ∀ j, j < W → j < R.length := fun j hj => by omega
  clear hp
  go_enter Try.func15, Try.ntmps15
  go_wp2
  go_loopw [10] (fun tv wr => ∃ t n : Nat, t ≤ W ∧ tv = .int .i64 t ∧ (∀ j, j < t → R.getD j 0 ≤ F.getD (p + j) 0) ∧ wr = w.drewN n) (fun tv _ => W - (intOf tv).toNat)
  case atStart => exact ⟨0, 0, Nat.zero_le _, rfl, fun j h => absurd h (by omega), rfl⟩
  case round =>
    obtain ⟨t, n, ht, rfl, hn, rfl⟩ := hrel
    by_cases hlt : t < W
    · obtain ⟨b0, o0, rfl, hb0, hc0⟩ := hF.at (k := p + t) (by omega)
      obtain ⟨b1, o1, rfl, hb1, hc1⟩ := hR.at (k := t) (by omega)
      obtain ⟨x, cx, X⟩ := hc0.get (p + t) (by omega)
      obtain ⟨y, cy, Y⟩ := hc1.get t (by omega)
      by_cases hxy : x < y
      · go_wp2
        go_quiet (fail)
        go_wp2
        go_ret
        refine ⟨?_, n + nq, by simp⟩
        rw [cov_no F R i t (hlr2 t hlt) (by rw [HL.out, HP.out, X.out, Y.out]; exact hxy)]
        rfl
      · go_wp2
        go_quiet (fail)
        go_wp2
        go_roundw
        case rel =>
          refine ⟨t + 1, _, by omega, by go_num, fun j hj => ?_, rfl⟩
          by_cases e : j = t
          · subst e; rw [X.out, Y.out]; omega
          · exact hn j (by omega)
        case measure => simp [intOf]; omega
    · go_wp2
      go_ret
      refine ⟨?_, _, rfl⟩
      rw [(cov_iff F R i).2 fun j hj => by rw [HL.out, HP.out]; exact hn j (by omega)]
      rfl
end Go.Proofs.Qxb6604293a.Sc
