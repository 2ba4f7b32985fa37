import Derived.Test.Qxb6604293aScModel
import Derived.RegionTactic
namespace Go.Proofs.Qxb6604293a.Re
open Go.RowKit Sc

set_option maxHeartbeats 400000 in
theorem clone_own (ad : Addr) (len cap : Nat) (xs : List Int) (w : World) (hl : xs.length = len) (hm : len ≤ 1048576) (hr : Row w (some ad) xs) :
    Calls Try.prog 10 #[.slice (some ad) len cap] w fun e w' => e = .returned (.slice (some ⟨w.heap.size, 0, none⟩) len len) ∧
      w'.ownsRow w.heap.size 2 1 (.slice (some ⟨w.heap.size, 0, none⟩) len len) len (xs.map (Value.int .i64)) ∧ Below w.heap.size w w' := by
  have hq := fun w => Lib.run_eql_slice_nil (P := Try.prog) w 22 2 (some ad) len cap 0 0 Try.underlying22
  obtain ⟨i0, hi, hz0, hz1, hz2⟩ := info_parts Try.info2
  go_enter Try.func10, Try.ntmps10
  go_wp2_with (refine wpList_make_full _ rfl _ _ 22 rfl w.heap.size 2 i0 (.int .i64 0) 1 Try.underlying22 hi hz0 hz1 _ _ _ _ len rfl rfl rfl rfl ?_ ?_ ?_ ?_)
  · rw [hz2]; omega
  · unfold maxLen; omega
  · exact Nat.le_refl _
  · intro w1 hown hg
    rw [made_zeros] at hown
    have hbel : Below w.heap.size w w1 := below_grown0 (Below.refl _ _) hg (Nat.le_refl _)
    clear hg hz0 hz1 hz2 hi
    go_wp2
    go_loopw [4] (fun i wr => ∃ (k : Nat) (ys : List Int), k ≤ len ∧ i = .int .i64 k ∧ ys.length = len ∧ (∀ j, j < k → ys.getD j 0 = xs.getD j 0) ∧
      wr.ownsRow w.heap.size 2 1 (.slice (some ⟨w.heap.size, 0, none⟩) len len) len (ys.map (Value.int .i64)) ∧ Below w.heap.size w wr) (fun i _ => len - (intOf i).toNat)
    case atStart => exact ⟨0, _, Nat.zero_le _, rfl, by simp, fun j h => absurd h (by omega), hown, hbel⟩
    case round =>
      clear hown hbel
      obtain ⟨k, ys, hk, rfl, hyl, hys, hown, hbel⟩ := hrel
      by_cases hlt : k < len
      · obtain ⟨b, off, had, hb, hc⟩ := hr.at (k := k) (by omega)
        obtain rfl : ad = ⟨b, off, none⟩ := Option.some.inj had
        obtain ⟨x, c1, X⟩ := hc.get k (by omega)
        have c1' : wr.cell? ⟨b, off + k, none⟩ = some (.int .i64 x) := (hbel.cell (by exact hb)).trans c1
        have c2 := own_get hown k hlt
        have c3 := hown.frozenAt k
        have R := own_set hown k x
        have R2 := hbel.setCell (p := ⟨w.heap.size, k, none⟩) (Nat.le_refl _) (.int .i64 x)
        have Y : Hid (ys.length = len) := hyl
        clear hyl hown hbel c1
        go_wp2
        go_roundw
        case rel =>
          refine ⟨k + 1, ys.set k x, by omega, by go_num, by rw [List.length_set]; exact Y.out, fun j hj => ?_, R, R2⟩
          by_cases e : j = k
          · subst e; rw [getD_set_eq _ _ _ (by rw [Y.out]; exact hlt), X.out]
          · rw [getD_set_ne _ _ _ _ e]; exact hys j (by omega)
        case measure => simp [intOf]; omega
      · go_wp2
        go_ret
        obtain rfl : ys = xs := eq_of_getD (by omega) (fun j hj => hys j (by omega))
        exact ⟨rfl, hown, hbel⟩

theorem equal_same (a0 a1 : Option Addr) (len c0 c1 : Nat) (xs : List Int) (w : World) (h0 : Row w a0 xs) (h1 : Row w a1 xs) (hl : xs.length = len) (hm : len ≤ maxLen) :
    Calls Try.prog 18 #[.slice a0 len c0, .slice a1 len c1] w fun e w' => e = .returned (.bool true) ∧ ∃ n, w' = w.drewN n := by
  unfold maxLen at hm
  go_enter Try.func18, Try.ntmps18
  go_wp2
  go_loopw [5] (fun i wr => ∃ k n : Nat, k ≤ len ∧ i = .int .i64 k ∧ wr = w.drewN n) (fun i _ => len - (intOf i).toNat)
  case atStart => exact ⟨0, 0, Nat.zero_le _, rfl, rfl⟩
  case round =>
    obtain ⟨k, n, hk, rfl, rfl⟩ := hrel
    by_cases hlt : k < len
    · obtain ⟨b0, o0, rfl, hb0, hc0⟩ := h0.at (k := k) (by omega)
      obtain ⟨b1, o1, rfl, hb1, hc1⟩ := h1.at (k := k) (by omega)
      obtain ⟨x, cx, X⟩ := hc0.get k (by omega)
      have cy : w.cell? ⟨b1, o1 + k, none⟩ = some (.int .i64 x) := by rw [hc1 k (by omega), X.out]
      go_wp2
      go_quiet (fail)
      go_wp2
      go_roundw
      case rel => exact ⟨k + 1, _, by omega, by go_num, rfl⟩
      case measure => simp [intOf]; omega
    · go_wp2
      go_ret
      exact ⟨rfl, _, rfl⟩

set_option maxHeartbeats 400000 in
theorem remainder_any (a0 a1 : Option Addr) (l0 c0 l1 c1 W : Nat) (O L : List Int) (w : World) (h0 : Row w a0 O) (h1 : Row w a1 L) (hl0 : O.length = l0) (hl1 : L.length = l1) (hW0 : W ≤ l0) (hW1 : W ≤ l1) (hm0 : l0 ≤ 1048576)
    (nO : ∀ t, t < W → 0 ≤ O.getD t 0 ∧ O.getD t 0 ≤ 9223372036854775807) (nL : ∀ t, t < W → 0 ≤ L.getD t 0 ∧ L.getD t 0 ≤ 9223372036854775807) :
    Calls Try.prog 19 #[.slice a0 l0 c0, .slice a1 l1 c1, .int .i64 W] w fun e w' => e = .returned (.slice (some ⟨w.heap.size, 0, none⟩) W W) ∧ Row w' (some ⟨w.heap.size, 0, none⟩) (remain L O W) ∧ Below w.heap.size w w' := by
  obtain ⟨i0, hi, hz0, hz1, hz2⟩ := info_parts Try.info2
  go_enter Try.func19, Try.ntmps19
  go_wp2_with (refine wpList_make_full _ rfl _ _ 22 rfl w.heap.size 2 i0 (.int .i64 0) 1 Try.underlying22 hi hz0 hz1 _ _ _ _ W rfl rfl rfl rfl ?_ ?_ ?_ ?_)
  · rw [hz2]; omega
  · unfold maxLen; omega
  · exact Nat.le_refl _
  · intro w1 hown hg
    rw [made_zeros] at hown
    have hbel : Below w.heap.size w w1 := below_grown0 (Below.refl _ _) hg (Nat.le_refl _)
    clear hg hz0 hz1 hz2 hi
    go_wp2
    go_loopw [8] (fun i wr => ∃ (k : Nat) (ys : List Int), k ≤ W ∧ i = .int .i64 k ∧ ys.length = W ∧ (∀ j, j < k → ys.getD j 0 = rem1 (L.getD j 0) (O.getD j 0)) ∧
      wr.ownsRow w.heap.size 2 1 (.slice (some ⟨w.heap.size, 0, none⟩) W W) W (ys.map (Value.int .i64)) ∧ Below w.heap.size w wr) (fun i _ => W - (intOf i).toNat)
    case atStart => exact ⟨0, _, Nat.zero_le _, rfl, by simp, fun j h => absurd h (by omega), hown, hbel⟩
    case round =>
      clear hown hbel
      obtain ⟨k, ys, hk, rfl, hyl, hys, hown, hbel⟩ := hrel
      have HYS : Hid (∀ j, j < k → ys.getD j 0 = rem1 (L.getD j 0) (O.getD j 0)) := hys
      clear hys
      by_cases hlt : k < W
      · obtain ⟨b0, o0, rfl, hb0, hc0⟩ := h0.at (k := k) (by omega)
        obtain ⟨b1, o1, rfl, hb1, hc1⟩ := h1.at (k := k) (by omega)
        obtain ⟨x, c1, X⟩ := hc0.get k (by omega)
        obtain ⟨y, c2, Y⟩ := hc1.get k (by omega)
        have nx := nO k hlt
        have ny := nL k hlt
        rw [X.out] at nx
        rw [Y.out] at ny
        have c1' : wr.cell? ⟨b0, o0 + k, none⟩ = some (.int .i64 x) := (hbel.cell (by exact hb0)).trans c1
        have c2' : wr.cell? ⟨b1, o1 + k, none⟩ = some (.int .i64 y) := (hbel.cell (by exact hb1)).trans c2
        have c3 := own_get hown k hlt
        have c4 := hown.frozenAt k
        have Y2 : Hid (ys.length = W) := hyl
        have HO : Hid (wr.ownsRow w.heap.size 2 1 (.slice (some ⟨w.heap.size, 0, none⟩) W W) W (ys.map (Value.int .i64))) := hown
        clear hyl hown c1 c2
        by_cases hneg : y - x < 0
        · go_wp2
          go_quiet (fail)
          go_wp2
          go_roundw
          case rel =>
            refine ⟨k + 1, ys.set k 0, by omega, by go_num, by rw [List.length_set]; exact Y2.out, fun j hj => ?_, own_set HO.out k 0, (below_drewN hbel nq).setCell (p := ⟨w.heap.size, k, none⟩) (Nat.le_refl _) _⟩
            by_cases e : j = k
            · subst e; rw [getD_set_eq _ _ _ (by rw [Y2.out]; exact hlt), X.out, Y.out]; unfold rem1; rw [if_pos hneg]
            · rw [getD_set_ne _ _ _ _ e]; exact HYS.out j (by omega)
          case measure => simp [intOf]; omega
        · go_wp2
          go_quiet (fail)
          go_wp2
          go_roundw
          case rel =>
            refine ⟨k + 1, ys.set k (y - x), by omega, by go_num, by rw [List.length_set]; exact Y2.out, fun j hj => ?_, own_set HO.out k _, (below_drewN hbel nq).setCell (p := ⟨w.heap.size, k, none⟩) (Nat.le_refl _) _⟩
            by_cases e : j = k
            · subst e; rw [getD_set_eq _ _ _ (by rw [Y2.out]; exact hlt), X.out, Y.out]; unfold rem1; rw [if_neg (by omega)]
            · rw [getD_set_ne _ _ _ _ e]; exact HYS.out j (by omega)
          case measure => simp [intOf]; omega
      · go_wp2
        go_ret
        obtain rfl : ys = remain L O W := eq_of_getD (by rw [remain_length]; omega) (fun j hj => by rw [remain_at _ _ _ _ (by omega)]; exact HYS.out j (by omega))
        exact ⟨rfl, own_row hown, hbel⟩
end Go.Proofs.Qxb6604293a.Re
