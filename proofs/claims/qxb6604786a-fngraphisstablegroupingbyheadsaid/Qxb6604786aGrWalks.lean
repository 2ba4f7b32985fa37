import Derived.Test.Qxb6604786aGrKit
namespace Go.Proofs.Qxb6604786a.Gr
open Go.RowKit

theorem bytes7 (n : Int) (a0 a1 : Option Addr) (l0 c0 l1 c1 : Nat) (w : World) (h0 : l0 ≤ maxLen) (h1 : l1 ≤ maxLen) :
    Calls Try.prog 7 #[.int .i64 n, .slice a0 l0 c0, .slice a1 l1 c1] w fun e w' => ∃ r : Bool, e = .returned (.bool r) ∧ w' = w := by
  unfold maxLen at h0 h1
  go_enter Try.func7, Try.ntmps7
  go_wp2
  all_goals (go_ret; exact ⟨_, rfl, rfl⟩)

theorem bytes12 (n : Int) (a0 a1 a2 a3 : Option Addr) (l0 c0 l1 c1 l2 c2 l3 c3 : Nat) (w : World) (h0 : l0 ≤ maxLen) (h1 : l1 ≤ maxLen) (h2 : l2 ≤ maxLen) (h3 : l3 ≤ maxLen) :
    Calls Try.prog 12 #[.int .i64 n, .slice a0 l0 c0, .slice a1 l1 c1, .slice a2 l2 c2, .slice a3 l3 c3] w fun e w' => ∃ r : Bool, e = .returned (.bool r) ∧ w' = w := by
  unfold maxLen at h0 h1 h2 h3
  go_enter Try.func12, Try.ntmps12
  go_wp2
  all_goals (go_ret; exact ⟨_, rfl, rfl⟩)

/-- what the test gives -/
def Both (fs ts : List Int) (n : Nat) : Prop := Among fs n ∧ Among ts n

theorem both_of {fs ts : List Int} {n : Nat} (hl : fs.length = ts.length) (h : ∀ j, j < fs.length → (0 ≤ fs.getD j 0 ∧ fs.getD j 0 < (n : Int)) ∧ (0 ≤ ts.getD j 0 ∧ ts.getD j 0 < (n : Int))) : Both fs ts n := by
  constructor
  · intro x hx
    obtain ⟨i, hi, rfl⟩ := List.getElem_of_mem hx
    simpa [hi] using (h i hi).1
  · intro x hx
    obtain ⟨i, hi, rfl⟩ := List.getElem_of_mem hx
    simpa [hi] using (h i (by omega)).2

set_option maxHeartbeats 1000000 in
theorem among (n : Nat) (a0 a1 : Option Addr) (m c0 c1 : Nat) (fs ts : List Int) (w : World) (h0 : Sl w a0 m c0 fs) (h1 : Sl w a1 m c1 ts) :
    Calls Try.prog 8 #[.int .i64 n, .slice a0 m c0, .slice a1 m c1] w fun e w' => ∃ r : Bool, e = .returned (.bool r) ∧ (r = true → Both fs ts n) ∧ w' = w := by
  have hm := h0.max
  unfold maxLen at hm
  have hl0 := h0.size
  have hl1 := h1.size
  go_enter Try.func8, Try.ntmps8
  go_wp2
  go_loop [7] (fun i => ∃ k : Nat, k ≤ m ∧ i = .int .i64 k ∧ (∀ j, j < k → (0 ≤ fs.getD j 0 ∧ fs.getD j 0 < (n : Int)) ∧ (0 ≤ ts.getD j 0 ∧ ts.getD j 0 < (n : Int)))) (fun i => m - (intOf i).toNat)
  case atStart => exact ⟨0, Nat.zero_le _, rfl, fun j h => absurd h (by omega)⟩
  case round =>
    obtain ⟨k, hk, rfl, hn⟩ := hrel
    have HN : Hid (∀ j, j < k → (0 ≤ fs.getD j 0 ∧ fs.getD j 0 < (n : Int)) ∧ (0 ≤ ts.getD j 0 ∧ ts.getD j 0 < (n : Int))) := hn
    clear hn
    by_cases hlt : k < m
    · obtain ⟨b0, o0, rfl, hb0, hc0⟩ := h0.row.at (j := k) (by omega)
      obtain ⟨b1, o1, rfl, hb1, hc1⟩ := h1.row.at (j := k) (by omega)
      obtain ⟨x, cx, X⟩ := hc0.get k (by omega)
      obtain ⟨y, cy, Y⟩ := hc1.get k (by omega)
      have bx := bounds_i32 (h0.fit x (by rw [← X.out]; simp [hl0, hlt]))
      have bdy := bounds_i32 (h1.fit y (by rw [← Y.out]; simp [hl1, hlt]))
      by_cases x0 : x < 0
      · go_wp2
        go_ret
        exact .inl ⟨rfl, rfl⟩
      by_cases x1 : (n : Int) ≤ x
      · go_wp2
        go_ret
        exact .inl ⟨rfl, rfl⟩
      by_cases y0 : y < 0
      · go_wp2
        go_ret
        exact .inl ⟨rfl, rfl⟩
      by_cases y1 : (n : Int) ≤ y
      · go_wp2
        go_ret
        exact .inl ⟨rfl, rfl⟩
      go_wp2
      go_round
      case rel =>
        refine ⟨k + 1, by omega, by go_num, fun j hj => ?_⟩
        by_cases e : j = k
        · subst e; rw [X.out, Y.out]; omega
        · exact HN.out j (by omega)
      case measure => simp [intOf]; omega
    · go_wp2
      go_ret
      exact .inr ⟨rfl, both_of (by omega) (fun j hj => HN.out j (by omega)), rfl⟩

theorem clone_nil (w : World) : Calls Try.prog 9 #[.slice none 0 0] w fun e w' => e = .returned (.slice none 0 0) ∧ w' = w := by
  have hq := fun w => Lib.run_eql_slice_nil (P := Try.prog) w 22 21 none 0 0 0 0 Try.underlying22
  go_enter Try.func9, Try.ntmps9
  go_wp2
  go_ret
  exact ⟨rfl, rfl⟩

theorem splice_all (L cs : List Value) (h : cs.length = L.length) : splice L 0 cs = cs := by
  unfold splice
  rw [List.drop_eq_nil_of_le (by omega)]
  simp

theorem row_src {k : IntKind} {w w1 : World} {ad : Addr} {xs : List Int} (hr : Row k w (some ad) xs) (hb : Below w.heap.size w w1) : ∀ (j : Nat) (a : Int), xs[j]? = some a → w1.cell? (ad.add j) = some (Value.int k a) := by
  intro j a hj
  rcases hr with rfl | ⟨b, off, had, hlt, hc⟩
  · simp at hj
  · obtain rfl : ad = ⟨b, off, none⟩ := Option.some.inj had
    have hj2 : j < xs.length := (List.getElem?_eq_some_iff.1 hj).1
    rw [WideShapes.add_plain, hb.cell (by exact hlt), hc j hj2]
    simp [hj]

theorem size21 : (Try.prog.info? 21).map (·.size) = some 1 := by kernel_rfl

set_option maxHeartbeats 400000 in
theorem clone_some (ad : Addr) (len cap : Nat) (xs : List Int) (w : World) (hl : xs.length = len) (hm : len ≤ 1048576) (hr : Row .i32 w (some ad) xs) :
    Calls Try.prog 9 #[.slice (some ad) len cap] w fun e w' => e = .returned (.slice (some ⟨w.heap.size, 0, none⟩) len len) ∧ Row .i32 w' (some ⟨w.heap.size, 0, none⟩) xs ∧ Below w.heap.size w w' := by
  have hq := fun w => Lib.run_eql_slice_nil (P := Try.prog) w 22 21 (some ad) len cap 0 0 Try.underlying22
  obtain ⟨i0, hi, hz0, hz1, hz2⟩ := info_parts Try.info21
  go_enter Try.func9, Try.ntmps9
  go_wp2_with (refine wpList_make_full _ rfl _ _ 22 rfl w.heap.size 21 i0 (.int .i32 0) 1 Try.underlying22 hi hz0 hz1 _ _ _ _ len rfl rfl rfl rfl ?_ ?_ ?_ ?_)
  · rw [hz2]; omega
  · unfold maxLen; omega
  · exact Nat.le_refl _
  · intro w1 hown hg
    rw [made_zeros] at hown
    have hbel : Below w.heap.size w w1 := below_grown0 (Below.refl _ _) hg (Nat.le_refl _)
    have hblk := Own.of_made hown
    clear hg hz0 hz1 hz2 hi hown
    go_wp2_with (refine wpList_copy_splice rfl (.tmp 9) (.tmp 10) 22 22 rfl 21 Try.underlying22 size21 _ _ _ _ _ _ rfl rfl w.heap.size 0 _ 21 hblk (xs.map (Value.int .i32)) ?_ ?_ ?_ ?_ w.heap.size w hbel (Nat.le_refl _) ?_)
    · simp [hl]
    · exact fun _ => row_src hr hbel
    · simp [hl]
    · exact ints_oneCell .i32 xs
    · intro w2 HG HB
      have hb2 : Blk w2 w.heap.size 21 (xs.map (Value.int .i32)) := by
        have := HG.out
        rw [splice_all _ _ (by simp [hl])] at this
        exact this
      clear HG hblk hbel
      go_wp2
      go_ret
      exact ⟨rfl, hb2.own.row, HB⟩

theorem clone (a : Option Addr) (len cap : Nat) (xs : List Int) (w : World) (h : Sl w a len cap xs) (hm : len ≤ 1048576) :
    Calls Try.prog 9 #[.slice a len cap] w fun e w' => ∃ a', e = .returned (.slice a' len len) ∧ Sl w' a' len len xs ∧ Below w.heap.size w w' := by
  cases a with
  | none =>
    obtain ⟨rfl, rfl⟩ := h.nil rfl
    refine (clone_nil w).mono fun e w' ⟨he, hw⟩ => ?_
    subst hw
    exact ⟨none, he, h, Below.refl _ _⟩
  | some ad =>
    refine (clone_some ad len cap xs w h.size hm h.row).mono fun e w' ⟨he, hr, hb⟩ => ?_
    exact ⟨_, he, ⟨fun h => (by cases h), hr, h.size, h.max, h.fit⟩, hb⟩

/-! ### slices.Clone at []int, of a slice that is not nil -/
theorem sclone (ad : Addr) (len cap : Nat) (xs : List Int) (w : World) (hl : xs.length = len) (hm : len ≤ 1048576) (hr : Row .i64 w (some ad) xs) :
    Calls Try.prog 28 #[.slice (some ad) len cap] w fun e w' => ∃ g c, e = .returned (.slice (some ⟨g, 0, none⟩) len c) ∧ w.heap.size ≤ g ∧ Own w' g 3 (xs.map (Value.int .i64)) ∧ Below w.heap.size w w' := by
  have hq := fun w => Lib.run_eql_slice_nil (P := Try.prog) w 25 3 (some ad) len cap 0 0 Try.underlying25
  obtain ⟨i0, hi, hz0, hz1, hz2⟩ := info_parts Try.info3
  go_enter Try.func28, Try.ntmps28
  go_wp2_with (at_builtin; refine wpList_append_own _ rfl (.tmp 5) (.tmp 6) 25 rfl w.heap.size 3 i0 (.int .i64 0) 1 8 Try.underlying25 hi hz0 hz1 hz2 rfl (by decide) _ 0 [] rfl ?_ ad len cap (xs.map (Value.int .i64)) rfl ?_ ?_ ?_ ?_ ?_ ?_ ?_)
  · exact World.ownsRow_lit w #[] 0 (Nat.le_refl _) (Nat.zero_le _) rfl
  · simp [hl]
  · intro j u hj
    rw [List.getElem?_map] at hj
    obtain ⟨a, ha, rfl⟩ := Option.map_eq_some_iff.1 hj
    exact row_src hr ((Below.refl _ w).alloc (Nat.le_refl _) _) j a ha
  · exact ints_oneCell .i64 xs
  · unfold maxLen; omega
  · omega
  · simp
  · intro v' w1 hown hg hne
    have hbel : Below w.heap.size w w1 := ((Below.refl _ w).alloc (Nat.le_refl _) _).grown hg (by simp) (fun k hk => by
      have e : some w.heap.size = some k := hk
      have e2 := Option.some.inj e
      omega)
    obtain ⟨g, c, hv, hge⟩ : ∃ g c, v' = .slice (some ⟨g, 0, none⟩) len c ∧ w.heap.size ≤ g := by
      rcases hown.2 with ⟨h', _⟩ | ⟨g, c, cur, h', hb, _⟩
      · exact absurd h' hne
      · exact ⟨g, c, h', hb⟩
    rw [hv] at hown ⊢
    have ho := Own.of_owns hown
    clear hown hg hne hv hz0 hz1 hz2 hi
    go_wp2
    go_ret
    exact ⟨g, c, rfl, hge, ho, hbel⟩
end Go.Proofs.Qxb6604786a.Gr
