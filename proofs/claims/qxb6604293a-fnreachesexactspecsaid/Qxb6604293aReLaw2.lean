import Derived.Test.Qxb6604293aReLaw
namespace Go.Proofs.Qxb6604293a.Re
open Go.RowKit Sc

set_option maxHeartbeats 1000000 in
theorem law_some (a0 a1 a2 a3 : Option Addr) (l0 c0 l1 c1 l2 c2 l3 c3 : Nat) (F O L R : List Int) (w : World) (hp : 0 < l0) (h0 : Sl w a0 l0 c0 F) (h1 : Sl w a1 l1 c1 O) (h2 : Sl w a2 l2 c2 L) (h3 : Sl w a3 l3 c3 R)
    (hc1 : l1 ≤ c1) (hm1 : c1 ≤ maxLen) (hc2 : l2 ≤ c2) (hm2 : c2 ≤ maxLen) :
    Calls Try.prog 5 #[.slice a0 l0 c0, .slice a1 l1 c1, .slice a2 l2 c2, .slice a3 l3 c3] w fun e w' => e = .returned (.bool true) ∧ Below w.heap.size w w' := by
  have m0 := h0.max
  have m1 := h1.max
  have m2 := h2.max
  have m3 := h3.max
  unfold maxLen at m0 m1 m2 m3 hm1 hm2
  have hl0 := h0.size
  have hl1 := h1.size
  have hl2 := h2.size
  have hl3 := h3.size
  have hp0 : (0 : Int) < (l0 : Int) := by omega
  have hp1 : ((l0 : Int) == 0) = false := by simp; omega
  go_enter Try.func5, Try.ntmps5
  go_wp2_with fail
  refine (bytes16 a0 a1 a2 a3 l0 c0 l1 c1 l2 c2 l3 c3 w h0.max h1.max h2.max h3.max).mono ?_
  rintro e w ⟨r, rfl, rfl⟩
  cases r with
  | false =>
    go_wp2_with fail
    go_ret
    exact ⟨rfl, Below.refl _ _⟩
  | true =>
    by_cases b0 : 32768 < l0
    · go_wp2_with fail
      go_ret
      exact ⟨rfl, Below.refl _ _⟩
    by_cases b1 : 32768 < l1
    · go_wp2_with fail
      go_ret
      exact ⟨rfl, Below.refl _ _⟩
    by_cases b2 : 32768 < l2
    · go_wp2_with fail
      go_ret
      exact ⟨rfl, Below.refl _ _⟩
    by_cases b3 : 32768 < l3
    · go_wp2_with fail
      go_ret
      exact ⟨rfl, Below.refl _ _⟩
    by_cases z3 : l3 = 0
    · subst z3
      go_wp2_with fail
      go_ret
      exact ⟨rfl, Below.refl _ _⟩
    have z3b : ((l3 : Int) == 0) = false := by simp; omega
    by_cases z2 : l2 < l3
    · go_wp2_with fail
      go_ret
      exact ⟨rfl, Below.refl _ _⟩
    by_cases z1 : l1 < l3
    · go_wp2_with fail
      go_ret
      exact ⟨rfl, Below.refl _ _⟩
    have y2 : ¬ c2 = 0 := by omega
    have y1 : ¬ c1 = 0 := by omega
    go_wp2_with fail
    refine (nonneg a0 l0 c0 F _ hl0 h0.max h0.row).mono ?_
    rintro e w ⟨r, rfl, s0, rfl⟩
    cases r with
    | false =>
      go_wp2_with fail
      go_ret
      exact ⟨rfl, Below.refl _ _⟩
    | true =>
      replace s0 := s0 rfl
      have nF := Nn.of h0 s0
      clear s0
      obtain ⟨bl, ol, rfl, hbl, _⟩ := h2.row.at (k := 0) (by omega)
      obtain ⟨bo, oo, rfl, hbo, _⟩ := h1.row.at (k := 0) (by omega)
      go_wp2_with fail
      refine (nonneg (some ⟨bl, ol, none⟩) l3 c2 (L.take l3) _ (by rw [List.length_take]; omega) (by unfold maxLen; omega) (row_take h2.row l3)).mono ?_
      rintro e w ⟨r, rfl, s2, rfl⟩
      cases r with
      | false =>
        go_wp2_with fail
        go_ret
        exact ⟨rfl, Below.refl _ _⟩
      | true =>
        replace s2 := s2 rfl
        have nL := bnd_of h2 (by omega) s2
        clear s2
        go_wp2_with fail
        refine (nonneg (some ⟨bo, oo, none⟩) l3 c1 (O.take l3) _ (by rw [List.length_take]; omega) (by unfold maxLen; omega) (row_take h1.row l3)).mono ?_
        rintro e w ⟨r, rfl, s1, rfl⟩
        cases r with
        | false =>
          go_wp2_with fail
          go_ret
          exact ⟨rfl, Below.refl _ _⟩
        | true =>
          replace s1 := s1 rfl
          have nO := bnd_of h1 (by omega) s1
          have HNL : Hid (∀ t, t < l3 → 0 ≤ L.getD t 0 ∧ L.getD t 0 ≤ 9223372036854775807) := nL
          have HNO : Hid (∀ t, t < l3 → 0 ≤ O.getD t 0 ∧ O.getD t 0 ≤ 9223372036854775807) := nO
          clear s1 nL nO
          go_wp2_with fail
          refine (clone a0 l0 c0 F _ h0 (by omega)).mono ?_
          rintro e w1 ⟨p0, rfl, k0, B1⟩
          have H1 := h1.below B1
          have H2 := h2.below B1
          have H3 := h3.below B1
          clear h1 h2 h3 h0
          go_wp2_with fail
          refine (clone _ l1 c1 O _ H1 (by omega)).mono ?_
          rintro e w2 ⟨p1, rfl, k1, q⟩
          have H2 := H2.below q
          have H3 := H3.below q
          have K0 := k0.below q
          have B2 : Below w.heap.size w w2 := B1.trans (q.mono B1.size)
          clear q B1 H1 k0
          go_wp2_with fail
          refine (clone _ l2 c2 L _ H2 (by omega)).mono ?_
          rintro e w3 ⟨p2, rfl, k2, q⟩
          have H3 := H3.below q
          have K0 := K0.below q
          have K1 := k1.below q
          have B3 : Below w.heap.size w w3 := B2.trans (q.mono B2.size)
          clear q B2 H2 k1
          go_wp2_with fail
          refine (clone a3 l3 c3 R _ H3 (by omega)).mono ?_
          rintro e w4 ⟨p3, rfl, k3, q⟩
          have K0 := K0.below q
          have K1 := K1.below q
          have K2 := k2.below q
          have B4 : Below w.heap.size w w4 := B3.trans (q.mono B3.size)
          clear q B3 H3 k2
          obtain ⟨b4, o4, rfl, _, _⟩ := k3.row.at (k := 0) (by omega)
          go_wp2_with fail
          refine (clone_own _ l3 l3 R _ hl3 (by omega) k3.row).mono ?_
          rintro e w5 ⟨rfl, own, q⟩
          have B5 : Below w.heap.size w w5 := B4.trans (q.mono B4.size)
          have hO : Row w5 (some ⟨w4.heap.size, 0, none⟩) R := own_row own
          have Q5 : Below w4.heap.size w4 w5 := q
          clear q
          obtain ⟨f0, hf0⟩ : ∃ f0, F.getD 0 0 = f0 := ⟨_, rfl⟩
          obtain ⟨r0, hr0⟩ : ∃ r0, rem1 (L.getD 0 0) (O.getD 0 0) = r0 := ⟨_, rfl⟩
          have HF0 : Hid (F.getD 0 0 = f0) := hf0
          have HR0 : Hid (rem1 (L.getD 0 0) (O.getD 0 0) = r0) := hr0
          clear hf0 hr0
          by_cases hs : f0 < r0
          · go_wp2_with fail
            refine (zzreach (reach_short p0 p1 p2 _ l0 l0 l1 l1 l2 l2 l3 l3 F O L w5 (K0.row.below Q5) (K1.row.below Q5) (K2.row.below Q5) hl0 hl1 hl2 hp (by omega) (by omega) (HNO.out 0 (by omega)) (HNL.out 0 (by omega)) (by rw [HF0.out, HR0.out]; exact hs))).mono ?_
            rintro e w5 ⟨rfl, n, rfl⟩
            go_wp2_with fail
            refine (remainder_any p1 p2 l1 l1 l2 l2 l3 O L _ ((K1.row.below Q5).drewN n) ((K2.row.below Q5).drewN n) hl1 hl2 (by omega) (by omega) (by omega) HNO.out HNL.out).mono ?_
            rintro e w6 ⟨rfl, hr, q⟩
            have q' : Below w5.heap.size w5 w6 := (below_drewN (Below.refl _ w5) n).trans q
            have B6 : Below w.heap.size w w6 := B5.trans (q'.mono B5.size)
            have F6 := (K0.row.below Q5).below q'
            have O6 := hO.below q'
            have R6 := (k3.row.below Q5).below q'
            clear q q' HNL HNO B5 B4 K0 K1 K2 own hO
            obtain ⟨b0, o0, rfl, hb0, hc0⟩ := F6.at (k := 0) (by omega)
            obtain ⟨br, or, hra, hbr, hcr⟩ := hr.at (k := 0) (by rw [remain_length]; omega)
            have cf : w6.cell? ⟨b0, o0, none⟩ = some (.int .i64 f0) := by have := hc0 0 (by omega); rw [HF0.out] at this; exact this
            have cr : w6.cell? ⟨w5.heap.size, 0, none⟩ = some (.int .i64 r0) := by
              have := hcr 0 (by rw [remain_length]; omega)
              rw [remain_at _ _ _ _ (by omega), HR0.out] at this
              simp only [Option.some.injEq, Addr.mk.injEq, and_true] at hra
              obtain ⟨e1, e2⟩ := hra
              rw [← e1, ← e2] at this
              exact this
            have z3i : (0 : Int) < (l3 : Int) := by omega
            clear hra hc0 hcr
            go_wp2_with fail
            go_quiet (fail)
            go_wp2_with fail
            refine (equal_same _ _ l3 l3 l3 R _ (O6.drewN _) (R6.drewN _) hl3 (by unfold maxLen; omega)).mono ?_
            rintro e w7 ⟨rfl, n2, rfl⟩
            go_wp2_with fail
            go_ret
            exact ⟨rfl, below_drewN B6 _⟩
          · have RL := reach_long p0 p1 p2 l0 l0 l1 l1 l2 l2 l3 w4.heap.size F O L R w4 w5 rfl Q5 K0.row K1.row K2.row hl0 hl1 hl2 own hp (by omega) (by omega) (by omega) (Nat.le_refl _) K0.max (Nat.le_refl _) K1.max (Nat.le_refl _) K2.max nF HNO.out HNL.out (by rw [HF0.out, HR0.out]; omega)
            have MD := fun (p : Option Addr) (wx : World) (h1 : Row wx p0 F) (h2 : Row wx p (remain L O l3)) => model_any p0 p l0 l0 l3 l3 F (remain L O l3) wx h1 h2 hl0 (remain_length _ _ _) (by omega) (by omega) (by omega)
            obtain ⟨fd, st, hans⟩ : ∃ fd st, ans F (remain L O l3) = (fd, st) := ⟨_, _, rfl⟩
            rw [hans] at RL
            simp only [hans] at MD
            clear hans
            go_wp2_with fail
            refine (zzreach RL).mono ?_
            rintro e w6 ⟨rfl, hO6, Q6⟩
            clear RL own hO Q5 B5
            have B6 : Below w.heap.size w w6 := B4.trans (Q6.mono B4.size)
            have K0 := K0.below Q6
            have K1 := K1.below Q6
            have K2 := K2.below Q6
            go_wp2_with fail
            refine (remainder_any p1 p2 l1 l1 l2 l2 l3 O L _ K1.row K2.row hl1 hl2 (by omega) (by omega) (by omega) HNO.out HNL.out).mono ?_
            rintro e w7 ⟨rfl, hr, q⟩
            have B7 : Below w.heap.size w w7 := B6.trans (q.mono B6.size)
            have F7 := K0.row.below q
            have O7 := hO6.below q
            clear q HNL HNO B6 B4 K0 K1 K2 hO6
            obtain ⟨b0, o0, rfl, hb0, hc0⟩ := F7.at (k := 0) (by omega)
            obtain ⟨br, or, hra, hbr, hcr⟩ := hr.at (k := 0) (by rw [remain_length]; omega)
            have cf : w7.cell? ⟨b0, o0, none⟩ = some (.int .i64 f0) := by have := hc0 0 (by omega); rw [HF0.out] at this; exact this
            have cr : w7.cell? ⟨w6.heap.size, 0, none⟩ = some (.int .i64 r0) := by
              have := hcr 0 (by rw [remain_length]; omega)
              rw [remain_at _ _ _ _ (by omega), HR0.out] at this
              simp only [Option.some.injEq, Addr.mk.injEq, and_true] at hra
              obtain ⟨e1, e2⟩ := hra
              rw [← e1, ← e2] at this
              exact this
            have z3i : (0 : Int) < (l3 : Int) := by omega
            clear hra hc0 hcr
            go_wp2_with fail
            go_quiet (fail)
            go_wp2_with fail
            refine (MD _ _ (F7.drewN _) (hr.drewN _)).mono ?_
            rintro e w8 ⟨rfl, n1, rfl⟩
            clear MD
            go_wp2_with fail
            refine (equal_same _ _ l3 l3 l3 (remain L O l3) _ (O7.drewN _) (hr.drewN _) (remain_length _ _ _) (by unfold maxLen; omega)).mono ?_
            rintro e w9 ⟨rfl, n2, rfl⟩
            go_wp2_with fail
            go_ret
            exact ⟨rfl, below_drewN B7 _⟩

theorem law (a0 a1 a2 a3 : Option Addr) (l0 c0 l1 c1 l2 c2 l3 c3 : Nat) (F O L R : List Int) (w : World) (h0 : Sl w a0 l0 c0 F) (h1 : Sl w a1 l1 c1 O) (h2 : Sl w a2 l2 c2 L) (h3 : Sl w a3 l3 c3 R)
    (hc1 : l1 ≤ c1) (hm1 : c1 ≤ maxLen) (hc2 : l2 ≤ c2) (hm2 : c2 ≤ maxLen) :
    Calls Try.prog 5 #[.slice a0 l0 c0, .slice a1 l1 c1, .slice a2 l2 c2, .slice a3 l3 c3] w fun e w' => e = .returned (.bool true) ∧ Below w.heap.size w w' := by
  by_cases hp : l0 = 0
  · subst hp; exact law_none a0 a1 a2 a3 c0 l1 c1 l2 c2 l3 c3 F O L R w h0 h1 h2 h3
  · exact law_some a0 a1 a2 a3 l0 c0 l1 c1 l2 c2 l3 c3 F O L R w (by omega) h0 h1 h2 h3 hc1 hm1 hc2 hm2
end Go.Proofs.Qxb6604293a.Re
