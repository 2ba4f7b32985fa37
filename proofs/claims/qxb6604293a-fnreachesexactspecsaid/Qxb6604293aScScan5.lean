import Derived.Test.Qxb6604293aScKit
namespace Go.Proofs.Qxb6604293a.Sc
open Go.RowKit

set_option maxRecDepth 100000 in
set_option maxHeartbeats 1000000 in
theorem scan5 (a0 a1 : Option Addr) (lf cf cr : Nat) (F R : List Int) (w : World) (hF : Row w a0 F) (hR : Row w a1 R) (hlf : F.length = lf) (hlr : R.length = 5) (hc : lf ≤ cf) (hm : cf ≤ maxLen) (nF : Nn F) (nR : Nn R) :
    Calls Try.prog 27 #[.slice a0 lf cf, .slice a1 5 cr] w fun e w' => e = .returned (.tuple #[.bool (ans F R).1, .int .i64 (ans F R).2]) ∧ ∃ n, w' = w.drewN n := by
  have S0 : At w F R a0 lf cf 0 := At.start hF hlf hc hm
  obtain ⟨b1, o1, rfl, hb1, hc1⟩ := hR.at (k := 0) (by omega)
  obtain ⟨r0, cr0, R0⟩ := hc1.get 0 (by omega)
  obtain ⟨r1, cr1, R1⟩ := hc1.get 1 (by omega)
  obtain ⟨r2, cr2, R2⟩ := hc1.get 2 (by omega)
  obtain ⟨r3, cr3, R3⟩ := hc1.get 3 (by omega)
  obtain ⟨r4, cr4, R4⟩ := hc1.get 4 (by omega)
  rw [Nat.add_zero] at cr0
  have nr0 := nR 0
  rw [R0.out] at nr0
  have nr1 := nR 1
  rw [R1.out] at nr1
  have nr2 := nR 2
  rw [R2.out] at nr2
  have nr3 := nR 3
  rw [R3.out] at nr3
  have nr4 := nR 4
  rw [R4.out] at nr4
  have HL : Hid (R.length = 5) := hlr
  have ha2 := fun (a : Option Addr) (l c : Nat) (h : 5 ≤ l) (w : World) => run_arrayAt (P := Try.prog) (w := w) 65 2 5 a l c Try.underlying65 h
  clear hlr
  unfold maxLen at hm
  go_enter Try.func27, Try.ntmps27
  go_wp2
  go_loopw [0, 5] (fun fv st wr => ∃ (i g c n : Nat) (a' : Option Addr), fv = .slice a' g c ∧ st = .int .i64 i ∧ i ≤ lf ∧ i * R.length ≤ F.length ∧ At w F R a' g c i ∧ wr = w.drewN n) (fun _ st _ => lf - (intOf st).toNat)
  case atStart => exact ⟨0, lf, cf, 0, a0, rfl, rfl, Nat.zero_le _, by simp, S0, rfl⟩
  case round =>
    clear S0
    obtain ⟨i, g, c, n, a', rfl, rfl, hi, hle, S, rfl⟩ := hrel
    have HLE : Hid (i * R.length ≤ F.length) := hle
    clear hle
    have hgc := S.cap
    have hcm := S.max
    unfold maxLen at hcm
    by_cases hlt : 5 ≤ g
    · have hlen := S.len
      obtain ⟨b, o, rfl, hb, hcc⟩ := S.row.at (k := 0) (by omega)
      obtain ⟨x0, cx0, X0⟩ := hcc.get 0 (by omega)
      obtain ⟨x1, cx1, X1⟩ := hcc.get 1 (by omega)
      obtain ⟨x2, cx2, X2⟩ := hcc.get 2 (by omega)
      obtain ⟨x3, cx3, X3⟩ := hcc.get 3 (by omega)
      obtain ⟨x4, cx4, X4⟩ := hcc.get 4 (by omega)
      rw [Nat.add_zero] at cx0
      have nx0 := nF.drop (i * R.length) 0
      rw [X0.out] at nx0
      have nx1 := nF.drop (i * R.length) 1
      rw [X1.out] at nx1
      have nx2 := nF.drop (i * R.length) 2
      rw [X2.out] at nx2
      have nx3 := nF.drop (i * R.length) 3
      rw [X3.out] at nx3
      have nx4 := nF.drop (i * R.length) 4
      rw [X4.out] at nx4
      have hil := (S.lt (by rw [HL.out]; omega) (by rw [HL.out]; exact hlt)).2
      rw [hlf] at hil
      clear hlen
      by_cases hs : x0 < r0
      · go_wp2
        go_quiet (fail)
        go_wp2
        go_ret2
        rw [S.short (by rw [HL.out]; omega) (by rw [HL.out]; exact hlt) (by rw [X0.out, R0.out]; exact hs)]
        exact ⟨by go_num, n + nq, by simp⟩
      · have hiff : 0 ≤ bits .or .i64 (bits .or .i64 (bits .or .i64 (bits .or .i64 (x0 - r0) (x1 - r1)) (x2 - r2)) (x3 - r3)) (x4 - r4) ↔ ((((0 ≤ x0 - r0) ∧ 0 ≤ x1 - r1) ∧ 0 ≤ x2 - r2) ∧ 0 ≤ x3 - r3) ∧ 0 ≤ x4 - r4 := by rw [or_nn _ _ (or_range _ _) (by omega), or_nn _ _ (or_range _ _) (by omega), or_nn _ _ (or_range _ _) (by omega), or_nn _ _ (by omega) (by omega)]
        have HI : Hid _ := hiff
        clear hiff
        by_cases hor : 0 ≤ bits .or .i64 (bits .or .i64 (bits .or .i64 (bits .or .i64 (x0 - r0) (x1 - r1)) (x2 - r2)) (x3 - r3)) (x4 - r4)
        · have hall := HI.out.1 hor
          have HA : Hid _ := hall
          clear hall
          go_wp2
          go_quiet (fail)
          go_wp2
          go_quiet (fail)
          go_wp2
          go_ret2
          have hall := HA.out
          rw [S.cov (by rw [HL.out]; omega) (by rw [HL.out]; exact hlt) (fun t ht => by
            rw [HL.out] at ht
            match t, ht with
            | 0, _ => rw [X0.out, R0.out]; omega
            | 1, _ => rw [X1.out, R1.out]; omega
            | 2, _ => rw [X2.out, R2.out]; omega
            | 3, _ => rw [X3.out, R3.out]; omega
            | 4, _ => rw [X4.out, R4.out]; omega)]
          exact ⟨by go_num, _, drew3 w _ _ _⟩
        · have hne : ∃ t, t < R.length ∧ (F.drop (i * R.length)).getD t 0 < R.getD t 0 := by
            rw [HL.out]
            have hno : ¬ (((((0 ≤ x0 - r0) ∧ 0 ≤ x1 - r1) ∧ 0 ≤ x2 - r2) ∧ 0 ≤ x3 - r3) ∧ 0 ≤ x4 - r4) := fun h => hor (HI.out.2 h)
            by_cases e0 : x0 < r0
            · refine ⟨0, by omega, ?_⟩; rw [← HL.out, X0.out, R0.out]; exact e0
            by_cases e1 : x1 < r1
            · refine ⟨1, by omega, ?_⟩; rw [← HL.out, X1.out, R1.out]; exact e1
            by_cases e2 : x2 < r2
            · refine ⟨2, by omega, ?_⟩; rw [← HL.out, X2.out, R2.out]; exact e2
            by_cases e3 : x3 < r3
            · refine ⟨3, by omega, ?_⟩; rw [← HL.out, X3.out, R3.out]; exact e3
            refine ⟨4, by omega, ?_⟩; rw [← HL.out, X4.out, R4.out]; omega
          have HN : Hid _ := hne
          clear hne
          go_wp2
          go_quiet (fail)
          go_wp2
          go_quiet (fail)
          go_wp2
          go_roundw
          case rel =>
            obtain ⟨t, ht, htt⟩ := HN.out
            have N := S.next (by rw [HL.out]; omega) (by rw [HL.out]; exact hlt) (by rw [X0.out, R0.out]; omega) t ht htt (if c = 5 then some ⟨b, o, none⟩ else some ⟨b, o + 5, none⟩) (fun h => by rw [HL.out] at h ⊢; rw [if_neg (by omega)]; simp [WideShapes.add_plain])
            have N1 : At w F R (if c = 5 then some ⟨b, o, none⟩ else some ⟨b, o + 5, none⟩) (g - 5) (c - 5) (i + 1) := by have := N.1; rwa [HL.out] at this
            exact ⟨i + 1, g - 5, c - 5, _, _, rfl, by go_num, by omega, N.2, N1, rfl⟩
          case measure => simp [intOf]; omega
    · go_wp2
      go_ret2
      obtain ⟨e1, e2⟩ := S.stop (by rw [HL.out]; omega) (by rw [HL.out]; omega)
      rw [e1, e2 HLE.out]
      exact ⟨rfl, _, rfl⟩
end Go.Proofs.Qxb6604293a.Sc
