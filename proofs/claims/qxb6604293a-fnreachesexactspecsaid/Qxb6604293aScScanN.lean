import Derived.Test.Qxb6604293aScWalks
import Derived.Test.Qxb6604293aScScan2
import Derived.Test.Qxb6604293aScScan3
import Derived.Test.Qxb6604293aScScan4
import Derived.Test.Qxb6604293aScScan5
namespace Go.Proofs.Qxb6604293a.Sc
open Go.RowKit

set_option maxRecDepth 100000 in
set_option maxHeartbeats 1000000 in
theorem scanN (a0 a1 : Option Addr) (lf cf cr W : Nat) (F R : List Int) (w : World) (hF : Row w a0 F) (hR : Row w a1 R) (hlf : F.length = lf) (hlr : R.length = W) (hc : lf ≤ cf) (hm : cf ≤ maxLen) (hW : W ≤ cr) (hmr : cr ≤ maxLen) (nF : Nn F) (nR : Nn R)
    (h0 : 0 < W) (h2 : W ≠ 2) (h3 : W ≠ 3) (h4 : W ≠ 4) (h5 : W ≠ 5) :
    Calls Try.prog 27 #[.slice a0 lf cf, .slice a1 W cr] w fun e w' => e = .returned (.tuple #[.bool (ans F R).1, .int .i64 (ans F R).2]) ∧ ∃ n, w' = w.drewN n := by
  have S0 : At w F R a0 lf cf 0 := At.start hF hlf hc hm
  have hR0 := hR
  obtain ⟨b1, o1, rfl, hb1, hc1⟩ := hR.at (k := 0) (by omega)
  obtain ⟨r0, cr0, R0⟩ := hc1.get 0 (by omega)
  rw [Nat.add_zero] at cr0
  have HL : Hid (R.length = W) := hlr
  have hmr2 := hmr
  clear hlr
  unfold maxLen at hm hmr2
  have k2 : ((W : Int) == 2) = false := by simp; omega
  have k3 : ((W : Int) == 3) = false := by simp; omega
  have k4 : ((W : Int) == 4) = false := by simp; omega
  have k5 : ((W : Int) == 5) = false := by simp; omega
  clear h2 h3 h4 h5
  go_enter Try.func27, Try.ntmps27
  go_wp2
  go_loopw [0, 5] (fun fv st wr => ∃ (i g c n : Nat) (a' : Option Addr), fv = .slice a' g c ∧ st = .int .i64 i ∧ i ≤ lf ∧ i * R.length ≤ F.length ∧ At w F R a' g c i ∧ wr = w.drewN n) (fun _ st _ => lf - (intOf st).toNat)
  case atStart => exact ⟨0, lf, cf, 0, a0, rfl, rfl, Nat.zero_le _, by simp, S0, rfl⟩
  case round =>
    clear S0 k2 k3 k4 k5
    obtain ⟨i, g, c, n, a', rfl, rfl, hi, hle, S, rfl⟩ := hrel
    have HLE : Hid (i * R.length ≤ F.length) := hle
    clear hle
    have hgc := S.cap
    have hcm := S.max
    unfold maxLen at hcm
    by_cases hlt : W ≤ g
    · have hlen := S.len
      obtain ⟨b, o, rfl, hb, hcc⟩ := S.row.at (k := 0) (by omega)
      obtain ⟨x0, cx0, X0⟩ := hcc.get 0 (by omega)
      rw [Nat.add_zero] at cx0
      have hil := (S.lt (by rw [HL.out]; omega) (by rw [HL.out]; exact hlt)).2
      rw [hlf] at hil
      clear hlen
      by_cases hs : x0 < r0
      · go_wp2
        go_quiet (fail)
        go_wp2
        go_ret2
        rw [S.short (by rw [HL.out]; omega) (by rw [HL.out]; exact hlt) (by rw [X0.out, R0.out]; exact hs)]
        exact ⟨by go_num, n + nq, by simp⟩
      · obtain ⟨tk1, tk2⟩ := S.take (by rw [HL.out]; exact hlt)
        obtain ⟨r, hr⟩ : ∃ r, allLe R ((F.drop (i * R.length)).take R.length) = r := ⟨_, rfl⟩
        have AL : ∀ m, Calls Try.prog 30 #[.slice (some ⟨b, o, none⟩) W c, .slice (some ⟨b1, o1, none⟩) W cr] (w.drewN m) fun e w' => e = .returned (.bool r) ∧ ∃ n, w' = (w.drewN m).drewN n := fun m => by
          rw [← hr]
          exact atLeast_any (some ⟨b, o, none⟩) (some ⟨b1, o1, none⟩) W c cr _ R (w.drewN m) (tk1.drewN m) (hR0.drewN m) (by rw [tk2]; exact HL.out) HL.out h0 hW hmr ((nF.drop _).take _) nR
        have HR : Hid (allLe R ((F.drop (i * R.length)).take R.length) = r) := hr
        clear tk1 tk2 hr
        have hcz : ¬ c = 0 := by omega
        cases r with
        | true =>
          go_wp2
          go_quiet (fail)
          go_wp2_with fail
          refine (AL _).mono ?_
          rintro e w' ⟨rfl, m, rfl⟩
          go_wp2_with fail
          go_ret2
          rw [S.cov (by rw [HL.out]; omega) (by rw [HL.out]; exact hlt) (allLe_yes HR.out)]
          exact ⟨by go_num, _, rfl⟩
        | false =>
          go_wp2
          go_quiet (fail)
          go_wp2_with fail
          refine (AL _).mono ?_
          rintro e w' ⟨rfl, m, rfl⟩
          go_wp2_with fail
          go_roundw
          case rel =>
            obtain ⟨t, ht, htt⟩ := allLe_not HR.out
            have N := S.next (by rw [HL.out]; omega) (by rw [HL.out]; exact hlt) (by rw [X0.out, R0.out]; omega) t ht htt (if c = W then some ⟨b, o, none⟩ else some ⟨b, o + W, none⟩) (fun h => by rw [HL.out] at h ⊢; rw [if_neg (by omega)]; simp [WideShapes.add_plain])
            have N1 : At w F R (if c = W then some ⟨b, o, none⟩ else some ⟨b, o + W, none⟩) (g - W) (c - W) (i + 1) := by have := N.1; rwa [HL.out] at this
            exact ⟨i + 1, g - W, c - W, _, _, rfl, by go_num, by omega, N.2, N1, rfl⟩
          case measure => simp [intOf]; omega
    · go_wp2
      go_ret2
      obtain ⟨e1, e2⟩ := S.stop (by rw [HL.out]; omega) (by rw [HL.out]; omega)
      rw [e1, e2 HLE.out]
      exact ⟨rfl, _, rfl⟩

theorem scan_any (a0 a1 : Option Addr) (lf cf cr W : Nat) (F R : List Int) (w : World) (hF : Row w a0 F) (hR : Row w a1 R) (hlf : F.length = lf) (hlr : R.length = W) (hc : lf ≤ cf) (hm : cf ≤ maxLen) (hW : W ≤ cr) (hmr : cr ≤ maxLen) (nF : Nn F) (nR : Nn R) (h0 : 0 < W) :
    Calls Try.prog 27 #[.slice a0 lf cf, .slice a1 W cr] w fun e w' => e = .returned (.tuple #[.bool (ans F R).1, .int .i64 (ans F R).2]) ∧ ∃ n, w' = w.drewN n := by
  by_cases h2 : W = 2
  · subst h2; exact scan2 a0 a1 lf cf cr F R w hF hR hlf hlr hc hm nF nR
  by_cases h3 : W = 3
  · subst h3; exact scan3 a0 a1 lf cf cr F R w hF hR hlf hlr hc hm nF nR
  by_cases h4 : W = 4
  · subst h4; exact scan4 a0 a1 lf cf cr F R w hF hR hlf hlr hc hm nF nR
  by_cases h5 : W = 5
  · subst h5; exact scan5 a0 a1 lf cf cr F R w hF hR hlf hlr hc hm nF nR
  exact scanN a0 a1 lf cf cr W F R w hF hR hlf hlr hc hm hW hmr nF nR h0 h2 h3 h4 h5

theorem zzscan (a0 a1 : Option Addr) (lf cf cr W : Nat) (F R : List Int) (w : World) (hF : Row w a0 F) (hR : Row w a1 R) (hlf : F.length = lf) (hlr : R.length = W) (hc : lf ≤ cf) (hm : cf ≤ maxLen) (hW : W ≤ cr) (hmr : cr ≤ maxLen) (nF : Nn F) (nR : Nn R) (h0 : 0 < W) :
    Calls Try.prog 11 #[.slice a0 lf cf, .slice a1 W cr] w fun e w' => e = .returned (.tuple #[.bool (ans F R).1, .int .i64 (ans F R).2]) ∧ ∃ n, w' = w.drewN n := by
  have S := scan_any a0 a1 lf cf cr W F R w hF hR hlf hlr hc hm hW hmr nF nR h0
  go_enter Try.func11, Try.ntmps11
  go_wp2_with fail
  refine S.mono ?_
  rintro e w' ⟨rfl, n, rfl⟩
  go_wp2_with fail
  go_ret2
  exact ⟨rfl, _, rfl⟩
end Go.Proofs.Qxb6604293a.Sc
