import Derived.Test.Qxb6604293aKit
import Derived.Test.Qxb6604293aStPlain
namespace Go.Proofs.Qxb6604293a.St
open Go.RowKit

set_option maxHeartbeats 400000 in
theorem nondec (a : Option Addr) (len cap : Nat) (xs : List Int) (w : World) (hl : xs.length = len) (hm : len ≤ maxLen) (hr : Row w a xs) :
    Calls Try.prog 21 #[.slice a len cap] w fun e w' => ∃ r : Bool, e = .returned (.bool r) ∧ (r = true → Asc xs) ∧ ∃ n, w' = w.drewN n := by
  unfold maxLen at hm
  go_enter Try.func21, Try.ntmps21
  go_wp2
  go_loopw [3] (fun i wr => ∃ k n : Nat, k + 1 ≤ len + 1 ∧ i = .int .i64 ((k : Int) + 1) ∧ (∀ j, j < k → j + 1 < xs.length → xs.getD j 0 ≤ xs.getD (j + 1) 0) ∧ wr = w.drewN n) (fun i _ => len + 1 - (intOf i).toNat)
  case atStart => exact ⟨0, 0, by omega, rfl, fun j h => absurd h (by omega), rfl⟩
  case round =>
    obtain ⟨k, n, hk, rfl, hs, rfl⟩ := hrel
    by_cases hlt : k + 1 < len
    · obtain ⟨b, off, rfl, hb, hc⟩ := hr.at (k := k) (by omega)
      obtain ⟨x, c1, X⟩ := hc.get k (by omega)
      obtain ⟨y, c2, Y⟩ := hc.get (k + 1) (by omega)
      by_cases hv : y < x
      · go_wp2
        go_quiet (fail)
        go_wp2
        go_ret
        exact ⟨false, rfl, by simp, n + nq, by simp⟩
      · go_wp2
        go_quiet (fail)
        go_wp2
        go_roundw
        case rel =>
          refine ⟨k + 1, n + nq, by omega, by go_num, fun j hj hj2 => ?_, rfl⟩
          by_cases e : j = k
          · subst e; rw [X.out, Y.out]; omega
          · exact hs j (by omega) hj2
        case measure => simp [intOf]; omega
    · go_wp2
      go_ret
      exact ⟨true, rfl, fun _ i hi => hs i (by omega) hi, _, rfl⟩

theorem bytes_any (a0 a1 : Option Addr) (l0 c0 l1 c1 : Nat) (w : World) (h0 : l0 ≤ maxLen) (h1 : l1 ≤ maxLen) :
    Calls Try.prog 20 #[.slice a0 l0 c0, .slice a1 l1 c1] w fun e w' => ∃ r : Bool, e = .returned (.bool r) ∧ w' = w := by
  unfold maxLen at h0 h1
  go_enter Try.func20, Try.ntmps20
  go_wp2
  all_goals (go_ret; exact ⟨_, rfl, rfl⟩)

set_option maxHeartbeats 400000 in
theorem lower (a : Option Addr) (len cap : Nat) (xs : List Int) (v : Int) (w : World) (hl : xs.length = len) (hm : len ≤ maxLen) (hs : Asc xs) (hr : Row w a xs) :
    Calls Try.prog 24 #[.slice a len cap, .int .i64 v] w fun e w' => e = .returned (.int .i64 (lb xs v)) ∧ w' = w := by
  unfold maxLen at hm
  go_enter Try.func24, Try.ntmps24
  go_wp2
  go_loop [5, 6] (fun lo hi => ∃ l h : Nat, l ≤ h ∧ h ≤ len ∧ lo = .int .i64 l ∧ hi = .int .i64 h ∧ (∀ t, t < l → xs.getD t 0 < v) ∧ (h < len → v ≤ xs.getD h 0))
    (fun lo hi => (intOf hi).toNat - (intOf lo).toNat)
  case atStart => exact ⟨0, len, Nat.zero_le _, Nat.le_refl _, rfl, rfl, fun t h => absurd h (by omega), fun h => absurd h (by omega)⟩
  case round =>
    obtain ⟨l, h, hlh, hh, rfl, rfl, h1, h2⟩ := hrel
    by_cases hlt : l < h
    · obtain ⟨b, off, rfl, hb, hc⟩ := hr.at (k := l) (by omega)
      obtain ⟨x, c1, X⟩ := hc.get (l + (h - l) / 2) (by omega)
      by_cases hv : x < v
      · go_wp2
        go_round
        case rel =>
          refine ⟨l + (h - l) / 2 + 1, h, by omega, hh, by go_num, rfl, fun t ht => ?_, h2⟩
          exact Int.lt_of_le_of_lt (hs.le' (j := l + (h - l) / 2) (by omega) (by omega)) (by rw [X.out]; exact hv)
        case measure => simp only [intOf]; omega
      · go_wp2
        go_round
        case rel => exact ⟨l, l + (h - l) / 2, by omega, by omega, rfl, by go_num, h1, fun _ => by rw [X.out]; omega⟩
        case measure => simp only [intOf]; omega
    · go_wp2
      go_ret
      obtain rfl : l = h := by omega
      have e := lb_eq xs v l (by omega) h1 (fun q => h2 (by omega))
      rw [e]
      exact ⟨rfl, rfl⟩

theorem clone_nil (w : World) : Calls Try.prog 22 #[.slice none 0 0] w fun e w' => e = .returned (.slice none 0 0) ∧ w' = w := by
  have hq := fun w => Lib.run_eql_slice_nil (P := Try.prog) w 33 3 none 0 0 0 0 Try.underlying33
  go_enter Try.func22, Try.ntmps22
  go_wp2
  go_ret
  exact ⟨rfl, rfl⟩

set_option maxHeartbeats 400000 in
theorem clone_some (ad : Addr) (len cap : Nat) (xs : List Int) (w : World) (hl : xs.length = len) (hm : len ≤ 1048576) (hr : Row w (some ad) xs) :
    Calls Try.prog 22 #[.slice (some ad) len cap] w fun e w' => e = .returned (.slice (some ⟨w.heap.size, 0, none⟩) len len) ∧ Row w' (some ⟨w.heap.size, 0, none⟩) xs ∧ Below w.heap.size w w' := by
  have hq := fun w => Lib.run_eql_slice_nil (P := Try.prog) w 33 3 (some ad) len cap 0 0 Try.underlying33
  obtain ⟨i0, hi, hz0, hz1, hz2⟩ := info_parts Try.info3
  go_enter Try.func22, Try.ntmps22
  go_wp2_with (refine wpList_make_full _ rfl _ _ 33 rfl w.heap.size 3 i0 (.int .i64 0) 1 Try.underlying33 hi hz0 hz1 _ _ _ _ len rfl rfl rfl rfl ?_ ?_ ?_ ?_)
  · rw [hz2]; omega
  · unfold maxLen; omega
  · exact Nat.le_refl _
  · intro w1 hown hg
    rw [made_zeros] at hown
    have hbel : Below w.heap.size w w1 := below_grown0 (Below.refl _ _) hg (Nat.le_refl _)
    clear hg hz0 hz1 hz2 hi
    go_wp2
    go_loopw [4] (fun i wr => ∃ (k : Nat) (ys : List Int), k ≤ len ∧ i = .int .i64 k ∧ ys.length = len ∧ (∀ j, j < k → ys.getD j 0 = xs.getD j 0) ∧
      wr.ownsRow w.heap.size 3 1 (.slice (some ⟨w.heap.size, 0, none⟩) len len) len (ys.map (Value.int .i64)) ∧ Below w.heap.size w wr) (fun i _ => len - (intOf i).toNat)
    case atStart => exact ⟨0, _, Nat.zero_le _, rfl, by simp, fun j h => absurd h (by omega), hown, hbel⟩
    case round =>
      clear hown hbel
      obtain ⟨k, ys, hk, rfl, hyl, hys, hown, hbel⟩ := hrel
      by_cases hlt : k < len
      · obtain ⟨b, off, had, hb, hc⟩ := hr.at (k := k) (by omega)
        obtain rfl : ad = ⟨b, off, none⟩ := Option.some.inj had
        obtain ⟨x, c1, X⟩ := hc.get k (by omega)
        have c1' : wr.cell? ⟨b, off + k, none⟩ = some (.int .i64 x) := (hbel.cell (by exact hb)).trans c1
        have c2 := own_get hown k hlt
        have c3 := hown.frozenAt k
        have R := own_set hown k x
        have R2 := hbel.setCell (p := ⟨w.heap.size, k, none⟩) (Nat.le_refl _) (.int .i64 x)
        have Y : Hid (ys.length = len) := hyl
        clear hyl hown hbel c1
        go_wp2
        go_roundw
        case rel =>
          refine ⟨k + 1, ys.set k x, by omega, by go_num, by rw [List.length_set]; exact Y.out, fun j hj => ?_, R, R2⟩
          by_cases e : j = k
          · subst e; rw [getD_set_eq _ _ _ (by rw [Y.out]; exact hlt), X.out]
          · rw [getD_set_ne _ _ _ _ e]; exact hys j (by omega)
        case measure => simp [intOf]; omega
      · go_wp2
        go_ret
        obtain rfl : ys = xs := eq_of_getD (by omega) (fun j hj => hys j (by omega))
        exact ⟨rfl, own_row hown, hbel⟩

theorem clone (a : Option Addr) (len cap : Nat) (xs : List Int) (w : World) (h : Sl w a len cap xs) (hm : len ≤ 1048576) :
    Calls Try.prog 22 #[.slice a len cap] w fun e w' => ∃ a', e = .returned (.slice a' len len) ∧ Sl w' a' len len xs ∧ Below w.heap.size w w' := by
  cases a with
  | none =>
    obtain ⟨rfl, rfl⟩ := h.nil rfl
    refine (clone_nil w).mono fun e w' ⟨he, hw⟩ => ?_
    subst hw
    exact ⟨none, he, h, Below.refl _ _⟩
  | some ad =>
    refine (clone_some ad len cap xs w h.size hm h.row).mono fun e w' ⟨he, hr, hb⟩ => ?_
    exact ⟨_, he, ⟨fun h => (by cases h), hr, h.size, h.max, h.fit⟩, hb⟩
end Go.Proofs.Qxb6604293a.St
