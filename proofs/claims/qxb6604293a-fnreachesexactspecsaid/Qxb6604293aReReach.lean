import Derived.Test.Qxb6604293aReWalks
namespace Go.Proofs.Qxb6604293a.Re
open Go.RowKit Sc

theorem reach_none (aF aO aL aR : Option Addr) (cF lO cO lL cL lR cR : Nat) (w : World) :
    Calls Try.prog 28 #[.slice aF 0 cF, .slice aO lO cO, .slice aL lL cL, .slice aR lR cR] w fun e w' => e = .returned (.tuple #[.bool false, .int .i64 0]) ∧ w' = w := by
  go_enter Try.func28, Try.ntmps28
  go_wp2
  go_ret2
  exact ⟨rfl, rfl⟩

set_option maxHeartbeats 400000 in
theorem reach_short (aF aO aL aR : Option Addr) (lF cF lO cO lL cL lR cR : Nat) (F O L : List Int) (w : World) (hF : Row w aF F) (hO : Row w aO O) (hL : Row w aL L) (hlF : F.length = lF) (hlO : O.length = lO) (hlL : L.length = lL)
    (h1 : 0 < lF) (h2 : 0 < lO) (h3 : 0 < lL) (nO : 0 ≤ O.getD 0 0 ∧ O.getD 0 0 ≤ 9223372036854775807) (nL : 0 ≤ L.getD 0 0 ∧ L.getD 0 0 ≤ 9223372036854775807) (hs : F.getD 0 0 < rem1 (L.getD 0 0) (O.getD 0 0)) :
    Calls Try.prog 28 #[.slice aF lF cF, .slice aO lO cO, .slice aL lL cL, .slice aR lR cR] w fun e w' => e = .returned (.tuple #[.bool false, .int .i64 1]) ∧ ∃ n, w' = w.drewN n := by
  obtain ⟨b0, o0, rfl, hb0, hc0⟩ := hF.at (k := 0) (by omega)
  obtain ⟨b1, o1, rfl, hb1, hc1⟩ := hO.at (k := 0) (by omega)
  obtain ⟨b2, o2, rfl, hb2, hc2⟩ := hL.at (k := 0) (by omega)
  obtain ⟨x, cx, X⟩ := hc0.get 0 (by omega)
  obtain ⟨y, cy, Y⟩ := hc1.get 0 (by omega)
  obtain ⟨z, cz, Z⟩ := hc2.get 0 (by omega)
  rw [Y.out] at nO hs
  rw [Z.out] at nL hs
  rw [X.out] at hs
  rw [Nat.add_zero] at cx cy cz
  have hz : ((lF : Int) == 0) = false := by simp; omega
  have h1i : (0 : Int) < (lF : Int) := by omega
  have h2i : (0 : Int) < (lO : Int) := by omega
  have h3i : (0 : Int) < (lL : Int) := by omega
  unfold rem1 at hs
  by_cases hn : z - y < 0
  · rw [if_pos hn] at hs
    go_enter Try.func28, Try.ntmps28
    go_wp2
    go_quiet (fail)
    go_wp2
    go_ret2
    exact ⟨rfl, _, rfl⟩
  · rw [if_neg hn] at hs
    go_enter Try.func28, Try.ntmps28
    go_wp2
    go_quiet (fail)
    go_wp2
    go_ret2
    exact ⟨rfl, _, rfl⟩

theorem remain_nn {L O : List Int} {W : Nat} (nL : ∀ t, t < W → 0 ≤ L.getD t 0 ∧ L.getD t 0 ≤ 9223372036854775807) (nO : ∀ t, t < W → 0 ≤ O.getD t 0 ∧ O.getD t 0 ≤ 9223372036854775807) : Nn (remain L O W) := fun j => by
  by_cases hj : j < W
  · rw [remain_at _ _ _ _ hj]
    have a := nL j hj
    have b := nO j hj
    refine ⟨rem1_nn _ _, ?_⟩
    unfold rem1
    split <;> omega
  · simp [remain, hj]

set_option maxHeartbeats 1000000 in
theorem reach_long (aF aO aL : Option Addr) (lF cF lO cO lL cL W g : Nat) (F O L R : List Int) (w0 w : World) (hg : w0.heap.size = g) (hb : Below g w0 w)
    (hF : Row w0 aF F) (hO : Row w0 aO O) (hL : Row w0 aL L) (hlF : F.length = lF) (hlO : O.length = lO) (hlL : L.length = lL)
    (hR : w.ownsRow g 2 1 (.slice (some ⟨g, 0, none⟩) W W) W (R.map (Value.int .i64)))
    (h1 : 0 < lF) (h0 : 0 < W) (h2 : W ≤ lO) (h3 : W ≤ lL) (hcF : lF ≤ cF) (hmF : cF ≤ maxLen) (hcO : lO ≤ cO) (hmO : cO ≤ maxLen) (hcL : lL ≤ cL) (hmL : cL ≤ maxLen)
    (nF : Nn F) (nO : ∀ t, t < W → 0 ≤ O.getD t 0 ∧ O.getD t 0 ≤ 9223372036854775807) (nL : ∀ t, t < W → 0 ≤ L.getD t 0 ∧ L.getD t 0 ≤ 9223372036854775807) (hs : rem1 (L.getD 0 0) (O.getD 0 0) ≤ F.getD 0 0) :
    Calls Try.prog 28 #[.slice aF lF cF, .slice aO lO cO, .slice aL lL cL, .slice (some ⟨g, 0, none⟩) W W] w fun e w' =>
      e = .returned (.tuple #[.bool (ans F (remain L O W)).1, .int .i64 (ans F (remain L O W)).2]) ∧ Row w' (some ⟨g, 0, none⟩) (remain L O W) ∧ Below g w0 w' := by
  subst hg
  obtain ⟨b1, o1, rfl, hb1, hc1⟩ := hO.at (k := 0) (by omega)
  obtain ⟨b2, o2, rfl, hb2, hc2⟩ := hL.at (k := 0) (by omega)
  obtain ⟨b0, o0, rfl, hb0, hc0⟩ := hF.at (k := 0) (by omega)
  obtain ⟨x, cx, X⟩ := hc0.get 0 (by omega)
  obtain ⟨y, cy, Y⟩ := hc1.get 0 (by omega)
  obtain ⟨z, cz, Z⟩ := hc2.get 0 (by omega)
  have ny := nO 0 h0
  have nz := nL 0 h0
  rw [Y.out] at ny hs
  rw [Z.out] at nz hs
  rw [X.out] at hs
  rw [Nat.add_zero] at cx cy cz
  have cx' : w.cell? ⟨b0, o0, none⟩ = some (.int .i64 x) := (hb.cell (by exact hb0)).trans cx
  have cy' : w.cell? ⟨b1, o1, none⟩ = some (.int .i64 y) := (hb.cell (by exact hb1)).trans cy
  have cz' : w.cell? ⟨b2, o2, none⟩ = some (.int .i64 z) := (hb.cell (by exact hb2)).trans cz
  clear cx cy cz
  have hz : ((lF : Int) == 0) = false := by simp; omega
  have h1i : (0 : Int) < (lF : Int) := by omega
  have h2i : (0 : Int) < (lO : Int) := by omega
  have h3i : (0 : Int) < (lL : Int) := by omega
  have hco : ¬ cO = 0 := by omega
  have hcl : ¬ cL = 0 := by omega
  have hmO2 := hmO
  have hmL2 := hmL
  unfold maxLen at hmO2 hmL2
  unfold rem1 at hs
  obtain ⟨v, hv⟩ : ∃ v, (if z - y < 0 then 0 else z - y) = v := ⟨_, rfl⟩
  rw [hv] at hs
  go_enter Try.func28, Try.ntmps28
  go_wp2
  go_quiet (fail)
  go_wp2
  clear hv hs
  go_quiet (fail)
  go_wp2
  clear cx' cy' cz' X Y Z
  go_loopw [36] (fun iv wr => ∃ (t : Nat) (ys : List Int), t ≤ W ∧ iv = .int .i64 t ∧ ys.length = W ∧ (∀ j, j < t → ys.getD j 0 = rem1 (L.getD j 0) (O.getD j 0)) ∧
      wr.ownsRow w0.heap.size 2 1 (.slice (some ⟨w0.heap.size, 0, none⟩) W W) W (ys.map (Value.int .i64)) ∧ Below w0.heap.size w0 wr) (fun iv _ => W - (intOf iv).toNat)
  case atStart =>
    refine ⟨0, R, Nat.zero_le _, rfl, ?_, fun j h => absurd h (by omega), hR, below_drewN hb _⟩
    have := hR.1
    simpa using this
  case round =>
    clear hR hb
    obtain ⟨t, ys, ht, rfl, hyl, hys, hown, hbel⟩ := hrel
    have HYS : Hid (∀ j, j < t → ys.getD j 0 = rem1 (L.getD j 0) (O.getD j 0)) := hys
    have Y2 : Hid (ys.length = W) := hyl
    have HO : Hid (wr.ownsRow w0.heap.size 2 1 (.slice (some ⟨w0.heap.size, 0, none⟩) W W) W (ys.map (Value.int .i64))) := hown
    clear hys hyl
    by_cases hlt : t < W
    · obtain ⟨x, c1, X⟩ := hc1.get t (by omega)
      obtain ⟨y, c2, Y⟩ := hc2.get t (by omega)
      have nx := nO t hlt
      have ny := nL t hlt
      rw [X.out] at nx
      rw [Y.out] at ny
      have c1' : wr.cell? ⟨b1, o1 + t, none⟩ = some (.int .i64 x) := (hbel.cell (by exact hb1)).trans c1
      have c2' : wr.cell? ⟨b2, o2 + t, none⟩ = some (.int .i64 y) := (hbel.cell (by exact hb2)).trans c2
      have c3 := own_get hown t hlt
      have c4 := hown.frozenAt t
      obtain ⟨v, hv⟩ : ∃ v, (if y - x < 0 then 0 else y - x) = v := ⟨_, rfl⟩
      have HV : Hid (rem1 y x = v) := hv
      clear hown c1 c2
      go_wp2
      go_region
      go_wp2
      go_roundw
      case rel =>
        refine ⟨t + 1, ys.set t v, by omega, by go_num, by rw [List.length_set]; exact Y2.out, fun j hj => ?_, own_set HO.out t v, (hbel.setCell (p := ⟨w0.heap.size, t, none⟩) (Nat.le_refl _) (.int .i64 v)).drew⟩
        by_cases e : j = t
        · subst e; rw [getD_set_eq _ _ _ (by rw [Y2.out]; exact hlt), X.out, Y.out]; exact HV.out.symm
        · rw [getD_set_ne _ _ _ _ e]; exact HYS.out j (by omega)
      case measure => simp [intOf]; omega
    · obtain rfl : W = t := by omega
      obtain rfl : ys = remain L O W := eq_of_getD (by rw [remain_length]; exact Y2.out) (fun j hj => by rw [remain_at _ _ _ _ (by rw [← Y2.out]; exact hj)]; exact HYS.out j (by rw [← Y2.out]; exact hj))
      have hro := own_row hown
      have hWm : W ≤ maxLen := by omega
      have SC := scan_any (some ⟨b0, o0, none⟩) (some ⟨w0.heap.size, 0, none⟩) lF cF W W F (remain L O W) wr (hF.below hbel) hro hlF (remain_length _ _ _) hcF hmF (Nat.le_refl _) hWm nF (remain_nn nL nO) h0
      go_wp2_with fail
      refine SC.mono ?_
      rintro e w' ⟨rfl, n, rfl⟩
      go_wp2_with fail
      go_ret2
      exact ⟨rfl, hro.drewN n, below_drewN hbel n⟩
end Go.Proofs.Qxb6604293a.Re
