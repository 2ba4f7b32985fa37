import Derived.Test.Qxb6604293aScScanN
namespace Go.Proofs.Qxb6604293a.Sc
open Go.RowKit

theorem ans_of (F R : List Int) (N k m : Nat) (hN : num F R = N) (hk : first (short F R) N = k) (hm : first (cov F R) N = m) :
    ans F R = if m < k then (true, m + 1) else if k < N then (false, k + 1) else (false, N) := by
  unfold ans
  rw [hN, hk, hm]

theorem idx {lf W N i : Nat} (hN : lf / W = N) (h : i < N) : i * W + W ≤ lf := by
  have h1 : (i + 1) * W ≤ N * W := Nat.mul_le_mul_right _ h
  have h2 : N * W ≤ lf := by rw [← hN]; exact Nat.div_mul_le_self _ _
  rw [Nat.succ_mul] at h1
  omega

set_option maxHeartbeats 1000000 in
theorem model_any (ad0 a1 : Option Addr) (lf cf cr W : Nat) (F R : List Int) (w : World) (hF : Row w ad0 F) (hR : Row w a1 R) (hlf : F.length = lf) (hlr : R.length = W) (hm : lf ≤ 1048576) (hW : W ≤ 1048576) (h0 : 0 < W) :
    Calls Try.prog 12 #[.slice ad0 lf cf, .slice a1 W cr] w fun e w' => e = .returned (.tuple #[.bool (ans F R).1, .int .i64 (ans F R).2]) ∧ ∃ n, w' = w.drewN n := by
  have hR0 := hR
  obtain ⟨b1, o1, rfl, hb1, hc1⟩ := hR.at (k := 0) (by omega)
  obtain ⟨r0, cr0, R0⟩ := hc1.get 0 (by omega)
  rw [Nat.add_zero] at cr0
  have HL : Hid (R.length = W) := hlr
  obtain ⟨N, hN⟩ : ∃ N, lf / W = N := ⟨_, rfl⟩
  have hNle : N ≤ lf := by rw [← hN]; exact Nat.div_le_self _ _
  have hNi : (lf : Int) / (W : Int) = (N : Int) := by rw [← hN]; simp
  have HN : Hid (num F R = N) := by show num F R = N; unfold num; rw [hlr, hlf]; exact hN
  have HNl : Hid (lf / W = N) := hN
  clear hlr hN
  go_enter Try.func12, Try.ntmps12
  go_wp2
  go_loopw [8, 9] (fun kv iv wr => ∃ i n : Nat, i ≤ N ∧ kv = .int .i64 N ∧ iv = .int .i64 i ∧ (∀ j, j < i → short F R j = false) ∧ wr = w.drewN n) (fun _ iv _ => N - (intOf iv).toNat)
  case atStart => exact ⟨0, 0, Nat.zero_le _, rfl, rfl, fun j h => absurd h (by omega), rfl⟩
  case round =>
    obtain ⟨kk, n, hi, rfl, rfl, hno, rfl⟩ := hrel
    have HNO : Hid (∀ j, j < kk → short F R j = false) := hno
    clear hno
    by_cases hlt : kk < N
    · obtain ⟨p, hp⟩ : ∃ p, kk * W = p := ⟨_, rfl⟩
      have hq : (kk : Int) * (W : Int) = (p : Int) := by rw [← hp]; simp
      have hpl : p + W ≤ lf := by rw [← hp]; exact idx HNl.out hlt
      have hwp : IntKind.i64.wrap (p : Int) = (p : Int) := by rw [IntKind.wrap_i64]; omega
      have hpi : (p : Int) < (lf : Int) := by omega
      have h0i : (0 : Int) < (W : Int) := by omega
      have HP : Hid (kk * W = p) := hp
      clear hp
      obtain ⟨b0, o0, had, hb0, hc0⟩ := hF.at (k := p) (by omega)
      subst had
      obtain ⟨x, cx, X⟩ := hc0.get p (by omega)
      by_cases hs : x < r0
      · have HK : Hid (first (short F R) N = kk) := first_eq _ _ _ (by omega) HNO.out (fun _ => by rw [short_iff, HL.out, HP.out, X.out, R0.out]; exact hs)
        go_wp2
        go_quiet (fail)
        go_wp2
        clear hs hq HNO HP X hpl cx hwp hpi
        go_loopw [10, 11] (fun mv iv wr => ∃ i n : Nat, i ≤ N ∧ mv = .int .i64 N ∧ iv = .int .i64 i ∧ (∀ j, j < i → cov F R j = false) ∧ wr = w.drewN n) (fun _ iv _ => N - (intOf iv).toNat)
        case atStart => exact ⟨0, _, Nat.zero_le _, rfl, rfl, fun j h => absurd h (by omega), drew2 w _ _⟩
        case round =>
          obtain ⟨i, n, hi, rfl, rfl, hno, rfl⟩ := hrel
          have HNO : Hid (∀ j, j < i → cov F R j = false) := hno
          clear hno
          by_cases hlt : i < N
          · obtain ⟨r, hr⟩ : ∃ r, cov F R i = r := ⟨_, rfl⟩
            have CV : ∀ q, Calls Try.prog 15 #[.slice (some ⟨b0, o0, none⟩) lf cf, .int .i64 i, .int .i64 W, .slice (some ⟨b1, o1, none⟩) W cr] (w.drewN q) fun e w' => e = .returned (.bool r) ∧ ∃ n, w' = (w.drewN q).drewN n := fun q => by
              rw [← hr]
              exact covers_any (some ⟨b0, o0, none⟩) _ lf cf cr i W (i * W) F R (w.drewN q) (hF.drewN q) (hR0.drewN q) hlf HL.out hm hW h0 rfl (idx HNl.out hlt)
            have HR : Hid (cov F R i = r) := hr
            clear hr
            cases r with
            | true =>
              have HM : Hid (first (cov F R) N = i) := first_eq _ _ _ (by omega) HNO.out (fun _ => HR.out)
              go_wp2_with fail
              refine (CV _).mono ?_
              rintro e w' ⟨rfl, q, rfl⟩
              clear CV
              have AN := ans_of F R N kk i HN.out HK.out HM.out
              by_cases hmk : i < kk
              · rw [if_pos hmk] at AN
                have AN2 : Hid _ := AN
                clear AN
                go_wp2_with fail
                go_ret2
                rw [AN2.out]
                exact ⟨by go_num, _, rfl⟩
              rw [if_neg hmk] at AN
              by_cases hkN : kk < N
              · rw [if_pos hkN] at AN
                have AN2 : Hid _ := AN
                clear AN
                go_wp2_with fail
                go_ret2
                rw [AN2.out]
                exact ⟨by go_num, _, rfl⟩
              rw [if_neg hkN] at AN
              have AN2 : Hid _ := AN
              clear AN
              go_wp2_with fail
              go_ret2
              rw [AN2.out]
              exact ⟨by go_num, _, rfl⟩
            | false =>
              go_wp2_with fail
              refine (CV _).mono ?_
              rintro e w' ⟨rfl, q, rfl⟩
              clear CV
              go_wp2_with fail
              go_roundw
              case rel =>
                refine ⟨i + 1, _, by omega, rfl, by go_num, fun j hj => ?_, rfl⟩
                by_cases e : j = i
                · subst e; exact HR.out
                · exact HNO.out j (by omega)
              case measure => simp [intOf]; omega
          · obtain rfl : N = i := by omega
            have HM : Hid (first (cov F R) N = N) := first_eq _ _ _ (Nat.le_refl _) HNO.out (fun h => absurd h (by omega))
            have AN := ans_of F R N kk N HN.out HK.out HM.out
            by_cases hmk : N < kk
            · rw [if_pos hmk] at AN
              have AN2 : Hid _ := AN
              clear AN
              go_wp2_with fail
              go_ret2
              rw [AN2.out]
              exact ⟨by go_num, _, rfl⟩
            rw [if_neg hmk] at AN
            by_cases hkN : kk < N
            · rw [if_pos hkN] at AN
              have AN2 : Hid _ := AN
              clear AN
              go_wp2_with fail
              go_ret2
              rw [AN2.out]
              exact ⟨by go_num, _, rfl⟩
            rw [if_neg hkN] at AN
            have AN2 : Hid _ := AN
            clear AN
            go_wp2_with fail
            go_ret2
            rw [AN2.out]
            exact ⟨by go_num, _, rfl⟩
      · go_wp2
        go_quiet (fail)
        go_wp2
        go_roundw
        case rel =>
          refine ⟨kk + 1, _, by omega, rfl, by go_num, fun j hj => ?_, rfl⟩
          by_cases e : j = kk
          · subst e; rw [short_no, HL.out, HP.out, X.out, R0.out]; omega
          · exact HNO.out j (by omega)
        case measure => simp [intOf]; omega
    · obtain rfl : N = kk := by omega
      have HK : Hid (first (short F R) N = N) := first_eq _ _ _ (Nat.le_refl _) HNO.out (fun h => absurd h (by omega))
      clear HNO
      go_wp2
      go_loopw [10, 11] (fun mv iv wr => ∃ i n : Nat, i ≤ N ∧ mv = .int .i64 N ∧ iv = .int .i64 i ∧ (∀ j, j < i → cov F R j = false) ∧ wr = w.drewN n) (fun _ iv _ => N - (intOf iv).toNat)
      case atStart => exact ⟨0, _, Nat.zero_le _, rfl, rfl, fun j h => absurd h (by omega), rfl⟩
      case round =>
        obtain ⟨i, n, hi, rfl, rfl, hno, rfl⟩ := hrel
        have HNO : Hid (∀ j, j < i → cov F R j = false) := hno
        clear hno
        by_cases hlt : i < N
        · obtain ⟨r, hr⟩ : ∃ r, cov F R i = r := ⟨_, rfl⟩
          have CV : ∀ q, Calls Try.prog 15 #[.slice ad0 lf cf, .int .i64 i, .int .i64 W, .slice (some ⟨b1, o1, none⟩) W cr] (w.drewN q) fun e w' => e = .returned (.bool r) ∧ ∃ n, w' = (w.drewN q).drewN n := fun q => by
            rw [← hr]
            exact covers_any ad0 _ lf cf cr i W (i * W) F R (w.drewN q) (hF.drewN q) (hR0.drewN q) hlf HL.out hm hW h0 rfl (idx HNl.out hlt)
          have HR : Hid (cov F R i = r) := hr
          clear hr
          cases r with
          | true =>
            have HM : Hid (first (cov F R) N = i) := first_eq _ _ _ (by omega) HNO.out (fun _ => HR.out)
            go_wp2_with fail
            refine (CV _).mono ?_
            rintro e w' ⟨rfl, q, rfl⟩
            clear CV
            have AN := ans_of F R N N i HN.out HK.out HM.out
            by_cases hmk : i < N
            · rw [if_pos hmk] at AN
              have AN2 : Hid _ := AN
              clear AN
              go_wp2_with fail
              go_ret2
              rw [AN2.out]
              exact ⟨by go_num, _, rfl⟩
            rw [if_neg hmk] at AN
            by_cases hkN : N < N
            · rw [if_pos hkN] at AN
              have AN2 : Hid _ := AN
              clear AN
              go_wp2_with fail
              go_ret2
              rw [AN2.out]
              exact ⟨by go_num, _, rfl⟩
            rw [if_neg hkN] at AN
            have AN2 : Hid _ := AN
            clear AN
            go_wp2_with fail
            go_ret2
            rw [AN2.out]
            exact ⟨by go_num, _, rfl⟩
          | false =>
            go_wp2_with fail
            refine (CV _).mono ?_
            rintro e w' ⟨rfl, q, rfl⟩
            clear CV
            go_wp2_with fail
            go_roundw
            case rel =>
              refine ⟨i + 1, _, by omega, rfl, by go_num, fun j hj => ?_, rfl⟩
              by_cases e : j = i
              · subst e; exact HR.out
              · exact HNO.out j (by omega)
            case measure => simp [intOf]; omega
        · obtain rfl : N = i := by omega
          have HM : Hid (first (cov F R) N = N) := first_eq _ _ _ (Nat.le_refl _) HNO.out (fun h => absurd h (by omega))
          have AN := ans_of F R N N N HN.out HK.out HM.out
          by_cases hmk : N < N
          · rw [if_pos hmk] at AN
            have AN2 : Hid _ := AN
            clear AN
            go_wp2_with fail
            go_ret2
            rw [AN2.out]
            exact ⟨by go_num, _, rfl⟩
          rw [if_neg hmk] at AN
          by_cases hkN : N < N
          · rw [if_pos hkN] at AN
            have AN2 : Hid _ := AN
            clear AN
            go_wp2_with fail
            go_ret2
            rw [AN2.out]
            exact ⟨by go_num, _, rfl⟩
          rw [if_neg hkN] at AN
          have AN2 : Hid _ := AN
          clear AN
          go_wp2_with fail
          go_ret2
          rw [AN2.out]
          exact ⟨by go_num, _, rfl⟩
end Go.Proofs.Qxb6604293a.Sc
