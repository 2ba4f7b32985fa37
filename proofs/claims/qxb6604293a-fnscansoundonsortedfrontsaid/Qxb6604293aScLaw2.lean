import Derived.Test.Qxb6604293aScModel
namespace Go.Proofs.Qxb6604293a.Sc
open Go.RowKit

theorem first_lt_iff (p : Nat → Bool) (n : Nat) : first p n < n ↔ ∃ j, j < n ∧ p j = true := by
  constructor
  · intro h; exact ⟨_, h, first_yes p n h⟩
  · rintro ⟨j, hj, hp⟩
    apply Classical.byContradiction
    intro hn
    have := first_no p n j (by have := first_le p n; omega)
    rw [hp] at this
    cases this

/-- the loop's flag -/
def Some1 (F R : List Int) (i : Nat) (s : Bool) : Prop := s = true ↔ ∃ j, j < i ∧ cov F R j = true

theorem some1_zero (F R : List Int) : Some1 F R 0 false := by unfold Some1; simp
theorem some1_yes {F R : List Int} {i : Nat} (h : cov F R i = true) : Some1 F R (i + 1) true := by
  unfold Some1
  exact ⟨fun _ => ⟨i, by omega, h⟩, fun _ => rfl⟩
theorem some1_no {F R : List Int} {i : Nat} {s : Bool} (hs : Some1 F R i s) (h : cov F R i = false) : Some1 F R (i + 1) s := by
  unfold Some1 at *
  rw [hs]
  constructor
  · rintro ⟨j, hj, hc⟩; exact ⟨j, by omega, hc⟩
  · rintro ⟨j, hj, hc⟩
    refine ⟨j, ?_, hc⟩
    by_cases e : j = i
    · subst e; rw [h] at hc; cases hc
    · omega

theorem some1_end {F R : List Int} {s : Bool} (hr : 0 < R.length) (hf : Falls F R.length) (hs : Some1 F R (num F R) s) : (ans F R).1 = s := by
  unfold Some1 at hs
  rw [ans_some F R hr hf, Bool.eq_iff_iff, decide_eq_true_iff, first_lt_iff, hs]

set_option maxHeartbeats 400000 in
theorem firsts (a0 : Option Addr) (lf cf W : Nat) (F : List Int) (w : World) (hF : Row w a0 F) (hlf : F.length = lf) (hm : lf ≤ 1048576) (hW : W ≤ 1048576) (h0 : 0 < W) :
    Calls Try.prog 14 #[.slice a0 lf cf, .int .i64 W] w fun e w' => ∃ r : Bool, e = .returned (.bool r) ∧ (r = true → Falls F W) ∧ ∃ n, w' = w.drewN n := by
  obtain ⟨N, hN⟩ : ∃ N, lf / W = N := ⟨_, rfl⟩
  have hNle : N ≤ lf := by rw [← hN]; exact Nat.div_le_self _ _
  have hNi : (lf : Int) / (W : Int) = (N : Int) := by rw [← hN]; simp
  have HNl : Hid (lf / W = N) := hN
  clear hN
  go_enter Try.func14, Try.ntmps14
  go_wp2
  go_loopw [6] (fun iv wr => ∃ k n : Nat, k ≤ N ∧ iv = .int .i64 ((k : Int) + 1) ∧ (∀ j, j < k → j + 1 < N → F.getD ((j + 1) * W) 0 ≤ F.getD (j * W) 0) ∧ wr = w.drewN n) (fun iv _ => N + 1 - (intOf iv).toNat)
  case atStart => exact ⟨0, 0, Nat.zero_le _, rfl, fun j h => absurd h (by omega), rfl⟩
  case round =>
    obtain ⟨k, n, hk, rfl, hno, rfl⟩ := hrel
    have HNO : Hid (∀ j, j < k → j + 1 < N → F.getD ((j + 1) * W) 0 ≤ F.getD (j * W) 0) := hno
    clear hno
    by_cases hlt : k + 1 < N
    · obtain ⟨p, hp⟩ : ∃ p, k * W = p := ⟨_, rfl⟩
      have hp1 : (k + 1) * W = p + W := by rw [Nat.succ_mul, hp]
      have hq : (k : Int) * (W : Int) = (p : Int) := by rw [← hp]; simp
      have hq1 : ((k : Int) + 1) * (W : Int) = (p : Int) + (W : Int) := by rw [Int.add_mul, hq]; simp
      have hpl : p + W + W ≤ lf := by have := idx HNl.out hlt; rw [hp1] at this; exact this
      have hwp : IntKind.i64.wrap (p : Int) = (p : Int) := by rw [IntKind.wrap_i64]; omega
      have hwp1 : IntKind.i64.wrap ((p : Int) + (W : Int)) = (p : Int) + (W : Int) := by rw [IntKind.wrap_i64]; omega
      have hpi : (p : Int) < (lf : Int) := by omega
      have hpi1 : (p : Int) + (W : Int) < (lf : Int) := by omega
      have HP : Hid (k * W = p) := hp
      have HP1 : Hid ((k + 1) * W = p + W) := hp1
      clear hp hp1
      obtain ⟨b0, o0, rfl, hb0, hc0⟩ := hF.at (k := p) (by omega)
      obtain ⟨x, cx, X⟩ := hc0.get p (by omega)
      obtain ⟨y, cy, Y⟩ := hc0.get (p + W) (by omega)
      by_cases hxy : x < y
      · go_wp2
        go_quiet (fail)
        go_wp2
        go_ret
        exact ⟨false, rfl, by simp, n + nq, by simp⟩
      · go_wp2
        go_quiet (fail)
        go_wp2
        go_roundw
        case rel =>
          refine ⟨k + 1, _, by omega, by go_num, fun j hj hj2 => ?_, rfl⟩
          by_cases e : j = k
          · subst e; rw [HP1.out, HP.out, X.out, Y.out]; omega
          · exact HNO.out j (by omega) hj2
        case measure => simp [intOf]; omega
    · go_wp2
      go_ret
      refine ⟨true, rfl, fun _ i hi => ?_, _, rfl⟩
      rw [hlf, HNl.out] at hi
      exact HNO.out i (by omega) hi

set_option maxHeartbeats 1000000 in
theorem law2 (a0 a1 : Option Addr) (l0 c0 l1 c1 : Nat) (F R : List Int) (w : World) (h0 : Sl w a0 l0 c0 F) (h1 : Sl w a1 l1 c1 R) :
    Calls Try.prog 4 #[.slice a0 l0 c0, .slice a1 l1 c1] w fun e w' => e = .returned (.bool true) ∧ Below w.heap.size w w' := by
  have m0 := h0.max
  have m1 := h1.max
  unfold maxLen at m0 m1
  have hl0 := h0.size
  have hl1 := h1.size
  go_enter Try.func4, Try.ntmps4
  go_wp2_with fail
  refine (bytes13 a0 a1 l0 c0 l1 c1 w h0.max h1.max).mono ?_
  rintro e w ⟨r, rfl, rfl⟩
  cases r with
  | false =>
    go_wp2_with fail
    go_ret
    exact ⟨rfl, Below.refl _ _⟩
  | true =>
    by_cases b0 : 65536 < l0
    · go_wp2_with fail
      go_ret
      exact ⟨rfl, Below.refl _ _⟩
    by_cases b1 : 65536 < l1
    · go_wp2_with fail
      go_ret
      exact ⟨rfl, Below.refl _ _⟩
    by_cases b2 : l1 = 0
    · subst b2
      go_wp2_with fail
      go_ret
      exact ⟨rfl, Below.refl _ _⟩
    have b3 : ((l1 : Int) == 0) = false := by simpa using b2
    go_wp2_with fail
    refine (nonneg a0 l0 c0 F _ hl0 h0.max h0.row).mono ?_
    rintro e w ⟨r, rfl, hs0, rfl⟩
    cases r with
    | false =>
      go_wp2_with fail
      go_ret
      exact ⟨rfl, Below.refl _ _⟩
    | true =>
      replace hs0 := hs0 rfl
      go_wp2_with fail
      refine (nonneg a1 l1 c1 R _ hl1 h1.max h1.row).mono ?_
      rintro e w ⟨r, rfl, hs1, rfl⟩
      cases r with
      | false =>
        go_wp2_with fail
        go_ret
        exact ⟨rfl, Below.refl _ _⟩
      | true =>
        replace hs1 := hs1 rfl
        have nF := Nn.of h0 hs0
        have nR := Nn.of h1 hs1
        clear hs0 hs1
        go_wp2_with fail
        refine (firsts a0 l0 c0 l1 F _ h0.row hl0 (by omega) (by omega) (by omega)).mono ?_
        rintro e wx ⟨r, rfl, hfl, nd, rfl⟩
        cases r with
        | false =>
          go_wp2_with fail
          go_ret
          exact ⟨rfl, below_drewN (Below.refl _ _) nd⟩
        | true =>
          replace hfl := hfl rfl
          go_wp2_with fail
          refine (clone a0 l0 c0 F _ (h0.drewN nd) (by omega)).mono ?_
          rintro e w1 ⟨p0, rfl, k0, q1⟩
          have B1 : Below w.heap.size w w1 := (below_drewN (Below.refl _ w) nd).trans q1
          have H1 := h1.below B1
          clear q1
          go_wp2_with fail
          refine (clone a1 l1 c1 R _ H1 (by omega)).mono ?_
          rintro e w2 ⟨p1, rfl, k1, q2⟩
          have K0 := k0.below q2
          have B2 : Below w.heap.size w w2 := B1.trans (q2.mono B1.size)
          clear q2 k0 H1 B1 h0 h1
          have SC := zzscan p0 p1 l0 l0 l1 l1 F R w2 K0.row k1.row hl0 hl1 (Nat.le_refl _) K0.max (Nat.le_refl _) k1.max nF nR (by omega)
          have ST := ans_steps F R
          have SE : ∀ s, Some1 F R (num F R) s → (ans F R).1 = s := fun s hs => some1_end (by omega) (by rw [hl1]; exact hfl) hs
          obtain ⟨fd, st, hans⟩ : ∃ fd st, ans F R = (fd, st) := ⟨_, _, rfl⟩
          rw [hans] at SC ST SE
          clear hans
          obtain ⟨N, hN⟩ : ∃ N, l0 / l1 = N := ⟨_, rfl⟩
          have hNle : N ≤ l0 := by rw [← hN]; exact Nat.div_le_self _ _
          have hNi : (l0 : Int) / (l1 : Int) = (N : Int) := by rw [← hN]; simp
          have hnum : num F R = N := by unfold num; rw [hl0, hl1]; exact hN
          rw [hnum] at SE ST
          have HSE : Hid (∀ s, Some1 F R N s → fd = s) := SE
          have HNl : Hid (l0 / l1 = N) := hN
          have st1 : N = 0 → st = 0 := ST.1
          have st2 : 0 < N → 1 ≤ st := ST.2.1
          have st3 : st ≤ N := ST.2.2
          have HST : Hid ((N = 0 → st = 0) ∧ (0 < N → 1 ≤ st)) := ⟨st1, st2⟩
          clear hN hnum SE ST st1 st2 hfl nF nR
          go_wp2_with fail
          refine SC.mono ?_
          rintro e w3 ⟨rfl, n, rfl⟩
          clear SC
          go_wp2_with fail
          go_loopw [9, 10] (fun sv iv wr => ∃ (i n : Nat) (s : Bool), i ≤ N ∧ iv = .int .i64 i ∧ sv = .bool s ∧ Some1 F R i s ∧ wr = w2.drewN n) (fun _ iv _ => N - (intOf iv).toNat)
          case atStart => exact ⟨0, n, false, Nat.zero_le _, rfl, rfl, some1_zero F R, rfl⟩
          case round =>
            obtain ⟨i, n, s, hi, rfl, rfl, hs, rfl⟩ := hrel
            by_cases hlt : i < N
            · obtain ⟨r, hr⟩ : ∃ r, cov F R i = r := ⟨_, rfl⟩
              have CV : ∀ q, Calls Try.prog 15 #[.slice p0 l0 l0, .int .i64 i, .int .i64 l1, .slice p1 l1 l1] (w2.drewN q) fun e w' => e = .returned (.bool r) ∧ ∃ n, w' = (w2.drewN q).drewN n := fun q => by
                rw [← hr]
                exact covers_any p0 p1 l0 l0 l1 i l1 (i * l1) F R (w2.drewN q) (K0.row.drewN q) (k1.row.drewN q) hl0 hl1 (by omega) (by omega) (by omega) rfl (idx HNl.out hlt)
              have HR : Hid (cov F R i = r) := hr
              clear hr
              cases r with
              | true =>
                go_wp2_with fail
                refine (CV _).mono ?_
                rintro e w' ⟨rfl, q, rfl⟩
                clear CV
                go_wp2_with fail
                go_roundw
                case rel => exact ⟨i + 1, _, true, by omega, by go_num, rfl, some1_yes HR.out, rfl⟩
                case measure => simp [intOf]; omega
              | false =>
                go_wp2_with fail
                refine (CV _).mono ?_
                rintro e w' ⟨rfl, q, rfl⟩
                clear CV
                go_wp2_with fail
                go_roundw
                case rel => exact ⟨i + 1, _, s, by omega, by go_num, rfl, some1_no hs HR.out, rfl⟩
                case measure => simp [intOf]; omega
            · obtain rfl : N = i := by omega
              obtain rfl : fd = s := HSE.out s hs
              by_cases hN0 : N = 0
              · subst hN0
                obtain rfl : st = 0 := HST.out.1 rfl
                go_wp2_with fail
                go_ret
                exact ⟨rfl, below_drewN B2 _⟩
              · have hN1 : ((N : Int) == 0) = false := by simpa using hN0
                have st2 : 1 ≤ st := HST.out.2 (by omega)
                go_wp2_with fail
                go_ret
                exact ⟨rfl, below_drewN B2 _⟩
end Go.Proofs.Qxb6604293a.Sc
