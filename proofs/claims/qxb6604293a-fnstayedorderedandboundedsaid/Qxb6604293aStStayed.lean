import Derived.Test.Qxb6604293aStWalks
namespace Go.Proofs.Qxb6604293a.St
open Go.RowKit

/-- Go's difference -/
def sub (i : Int) (k : Nat) : Int := wrap64 (i - (k : Int))

theorem one_new (w : World) (x : Value) : ∀ (j : Nat) u, [x][j]? = some u → (w.alloc (.cells #[x] 3)).cell? ((⟨w.heap.size, 0, none⟩ : Addr).add j) = some u := by
  intro j u hj
  match j, hj with
  | 0, hj => simp at hj; subst hj; simp [Addr.add]

theorem rel_keep {B j k : Nat} {ps rs : List Int} {x : Int} {w wr w1 : World} {o : Obj} {v v' : Value} (hB : B = w.heap.size) (hj : j < ps.length) (X : ps.getD j 0 = x) (hlb : lb rs x = k) (hmiss : hit rs x = false)
    (hown : wr.ownsRow B 3 1 v (kept sub rs (ps.take j)).length ((kept sub rs (ps.take j)).map (Value.int .i64))) (hbel : Below B w wr)
    (hown' : w1.ownsRow B 3 1 v' ((kept sub rs (ps.take j)).length + 1) ((kept sub rs (ps.take j)).map (Value.int .i64) ++ [.int .i64 (wrap64 (x - (k : Int)))])) (hg : (wr.alloc o).grownBy w1 v.ownBlock) :
    w1.ownsRow B 3 1 v' (kept sub rs (ps.take (j + 1))).length ((kept sub rs (ps.take (j + 1))).map (Value.int .i64)) ∧ Below B w w1 ∧ kept sub rs (ps.take (j + 1)) ≠ [] := by
  have e := kept_take_miss sub rs ps j hj (by rw [X]; exact hmiss)
  rw [X, hlb] at e
  rw [e]
  refine ⟨?_, ?_, by simp⟩
  · rw [List.length_append, List.map_append]
    exact hown'
  · have hs := hbel.size
    refine (hbel.alloc (by omega) o).grown hg (by simp; omega) (fun q hq => ?_)
    exact (hown.lt q hq).1

theorem rel_drop {B j : Nat} {ps rs : List Int} {x : Int} {wr : World} {v : Value} (hj : j < ps.length) (X : ps.getD j 0 = x) (hhit : hit rs x = true)
    (hown : wr.ownsRow B 3 1 v (kept sub rs (ps.take j)).length ((kept sub rs (ps.take j)).map (Value.int .i64))) (hnil : kept sub rs (ps.take j) = [] → v = .slice none 0 0) :
    wr.ownsRow B 3 1 v (kept sub rs (ps.take (j + 1))).length ((kept sub rs (ps.take (j + 1))).map (Value.int .i64)) ∧ (kept sub rs (ps.take (j + 1)) = [] → v = .slice none 0 0) := by
  rw [kept_take_hit sub rs ps j hj (by rw [X]; exact hhit)]
  exact ⟨hown, hnil⟩

theorem bef_next {ps rs : List Int} {j k : Nat} {x : Int} (hs : Asc ps) (X : ps.getD j 0 = x) (hbef : ∀ t, t < k → rs.getD t 0 < x) (h : j + 1 < ps.length) : ∀ t, t < k → rs.getD t 0 < ps.getD (j + 1) 0 := by
  intro t ht
  have a := hbef t ht
  have b := hs j h
  omega

set_option maxHeartbeats 1000000 in
theorem stayed_any (a0 a1 : Option Addr) (l0 c0 l1 c1 : Nat) (ps rs : List Int) (w : World) (h0 : Sl w a0 l0 c0 ps) (h1 : Sl w a1 l1 c1 rs) (hm0 : l0 ≤ 1048576) (hm1 : l1 ≤ 1048576) (hs : Asc ps) :
    Calls Try.prog 29 #[.slice a0 l0 c0, .slice a1 l1 c1] w fun e w' => ∃ v, e = .returned v ∧
      w'.ownsRow w.heap.size 3 1 v (kept sub rs ps).length ((kept sub rs ps).map (Value.int .i64)) ∧ (kept sub rs ps = [] → v = .slice none 0 0) ∧ Below w.heap.size w w' := by
  obtain ⟨i0, hi, hz0, hz1, hz2⟩ := info_parts Try.info3
  have hl0 := h0.size
  have hl1 := h1.size
  go_enter Try.func29, Try.ntmps29
  go_wp2
  go_loopw [5, 6, 11] (fun v kk i wr => ∃ k j : Nat, k ≤ l1 ∧ j ≤ l0 ∧ kk = .int .i64 k ∧ i = .int .i64 j ∧ (j < l0 → ∀ t, t < k → rs.getD t 0 < ps.getD j 0) ∧
      wr.ownsRow w.heap.size 3 1 v (kept sub rs (ps.take j)).length ((kept sub rs (ps.take j)).map (Value.int .i64)) ∧ (kept sub rs (ps.take j) = [] → v = .slice none 0 0) ∧ Below w.heap.size w wr)
    (fun _ _ i _ => l0 - (intOf i).toNat)
  case atStart => exact ⟨0, 0, Nat.zero_le _, Nat.zero_le _, rfl, rfl, fun _ t h => absurd h (by omega), World.ownsRow_nil _ _ _ _, fun _ => rfl, Below.refl _ _⟩
  case round =>
    obtain ⟨k, j, hk, hj, rfl, rfl, hbef, hown, hnil, hbel⟩ := hrel
    by_cases hlt : j < l0
    · obtain ⟨b0, o0, rfl, hb0, hc0⟩ := h0.row.at (k := j) (by omega)
      obtain ⟨x, cx, X⟩ := hc0.get j (by omega)
      have cx' : wr.cell? ⟨b0, o0 + j, none⟩ = some (.int .i64 x) := (hbel.cell (by exact hb0)).trans cx
      clear cx
      go_wp2
      go_loop [6] (fun kk => ∃ k : Nat, k ≤ l1 ∧ kk = .int .i64 k ∧ (∀ t, t < k → rs.getD t 0 < x)) (fun kk => l1 - (intOf kk).toNat)
      case atStart => exact ⟨k, hk, rfl, fun t ht => by have := hbef hlt t ht; rw [X.out] at this; exact this⟩
      case round =>
        clear hbef
        obtain ⟨k, hk, rfl, hbef⟩ := hrel
        by_cases hk2 : k < l1
        · obtain ⟨b1, o1, rfl, hb1, hc1⟩ := h1.row.at (k := k) (by omega)
          obtain ⟨y, cy, Y⟩ := hc1.get k (by omega)
          have cy' : wr.cell? ⟨b1, o1 + k, none⟩ = some (.int .i64 y) := (hbel.cell (by exact hb1)).trans cy
          clear cy
          by_cases hyx : y < x
          · go_wp2
            go_round
            case rel =>
              refine ⟨k + 1, by omega, by go_num, fun t ht => ?_⟩
              by_cases e : t = k
              · subst e; rw [Y.out]; exact hyx
              · exact hbef t (by omega)
            case measure => simp [intOf]; omega
          · have HLB : Hid (lb rs x = k) := lb_eq rs x k (by omega) hbef (fun _ => by rw [Y.out]; omega)
            by_cases hyx2 : y = x
            · subst hyx2
              have hhit : Hid (hit rs y = true) := by
                show hit rs y = true
                unfold hit; rw [HLB.out, Y.out]; simp; omega
              have R := rel_drop (by omega) X.out hhit.out hown hnil
              clear hown hnil
              go_wp2
              go_roundw
              case rel => exact ⟨k, j + 1, hk, by omega, rfl, by go_num, fun h => bef_next hs X.out hbef (by omega), R.1, R.2, hbel⟩
              case measure => simp [intOf]; omega
            · have hmiss : Hid (hit rs x = false) := by
                show hit rs x = false
                unfold hit; rw [HLB.out, Y.out]; simp; omega
              go_wp2_with (at_builtin; refine wpList_append_own _ rfl _ _ 33 rfl w.heap.size 3 i0 (.int .i64 0) 1 8 Try.underlying33 hi hz0 hz1 hz2 rfl (by decide) _ _ _ rfl (hown.alloc _) ⟨wr.heap.size, 0, none⟩ 1 1 [.int .i64 (wrap64 (x - (k : Int)))] rfl rfl (one_new _ _) (ints_oneCell .i64 [wrap64 (x - (k : Int))]) ?_ ?_ ?_ ?_)
              · have := kept_take_len sub rs ps j; unfold maxLen; omega
              · have := kept_take_len sub rs ps j; omega
              · have := hbel.size; simp; omega
              · intro v' w1 hown' hg _
                have R := rel_keep rfl (by omega) X.out HLB.out hmiss.out hown hbel hown' hg
                clear hown' hg hown hbel hnil
                go_wp2
                go_roundw
                case rel => exact ⟨k, j + 1, hk, by omega, rfl, by go_num, fun h => bef_next hs X.out hbef (by omega), R.1, fun h => absurd h R.2.2, R.2.1⟩
                case measure => simp [intOf]; omega
        · have HLB : Hid (lb rs x = k) := lb_eq rs x k (by omega) hbef (fun _ => by omega)
          have hmiss : Hid (hit rs x = false) := by
            show hit rs x = false
            unfold hit; rw [HLB.out]; simp; omega
          go_wp2_with (at_builtin; refine wpList_append_own _ rfl _ _ 33 rfl w.heap.size 3 i0 (.int .i64 0) 1 8 Try.underlying33 hi hz0 hz1 hz2 rfl (by decide) _ _ _ rfl (hown.alloc _) ⟨wr.heap.size, 0, none⟩ 1 1 [.int .i64 (wrap64 (x - (k : Int)))] rfl rfl (one_new _ _) (ints_oneCell .i64 [wrap64 (x - (k : Int))]) ?_ ?_ ?_ ?_)
          · have := kept_take_len sub rs ps j; unfold maxLen; omega
          · have := kept_take_len sub rs ps j; omega
          · have := hbel.size; simp; omega
          · intro v' w1 hown' hg _
            have R := rel_keep rfl (by omega) X.out HLB.out hmiss.out hown hbel hown' hg
            clear hown' hg hown hbel hnil
            go_wp2
            go_roundw
            case rel => exact ⟨k, j + 1, hk, by omega, rfl, by go_num, fun h => bef_next hs X.out hbef (by omega), R.1, fun h => absurd h R.2.2, R.2.1⟩
            case measure => simp [intOf]; omega
    · obtain rfl : j = l0 := by omega
      have ht : ps.take j = ps := List.take_of_length_le (by omega)
      rw [ht] at hown hnil
      go_wp2
      go_ret
      exact ⟨_, rfl, hown, hnil, hbel⟩

theorem slice_of {w : World} {base : Nat} {v : Value} {K : List Int} (h : w.ownsRow base 3 1 v K.length (K.map (Value.int .i64))) (hn : K = [] → v = .slice none 0 0) :
    ∃ a c, v = .slice a K.length c ∧ Row w a K ∧ (a = none ↔ K = []) := by
  rcases h.2 with ⟨hv, h0⟩ | ⟨g, cap, cur, hv, _⟩
  · have hK : K = [] := List.eq_nil_of_length_eq_zero h0
    subst hK
    exact ⟨none, 0, hv, .inl rfl, by simp⟩
  · subst hv
    refine ⟨some ⟨g, 0, none⟩, cap, rfl, own_row h, ⟨fun h => (by cases h), fun hK => ?_⟩⟩
    have := hn hK
    simp at this

theorem zzstayed (a0 a1 : Option Addr) (l0 c0 l1 c1 : Nat) (ps rs : List Int) (w : World) (h0 : Sl w a0 l0 c0 ps) (h1 : Sl w a1 l1 c1 rs) (hm0 : l0 ≤ 1048576) (hm1 : l1 ≤ 1048576) (hs : Asc ps) :
    Calls Try.prog 23 #[.slice a0 l0 c0, .slice a1 l1 c1] w fun e w' => ∃ a c, e = .returned (.slice a (kept sub rs ps).length c) ∧ Row w' a (kept sub rs ps) ∧ (a = none ↔ kept sub rs ps = []) ∧ Below w.heap.size w w' := by
  have S := stayed_any a0 a1 l0 c0 l1 c1 ps rs w h0 h1 hm0 hm1 hs
  go_enter Try.func23, Try.ntmps23
  go_wp2_with fail
  refine S.mono ?_
  rintro e w' ⟨v, rfl, hown, hnil, hbel⟩
  obtain ⟨a, c, hv, hrow, hn⟩ := slice_of hown hnil
  rw [hv]
  go_wp2
  go_ret
  exact ⟨a, c, rfl, hrow, hn, hbel⟩
end Go.Proofs.Qxb6604293a.St
