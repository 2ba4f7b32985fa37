import Derived.Test.Qxb6604293aReReach
namespace Go.Proofs.Qxb6604293a.Re
open Go.RowKit Sc

theorem of2 (w : World) (a : Option Addr) (len cap : Nat) (zs : List Int)
    (h : (a = none ∧ len = 0 ∧ cap = 0 ∧ zs = []) ∨
      ∃ x, a = some x ∧ len ≤ cap ∧ cap ≤ maxLen ∧ zs.length = cap ∧ (∀ i, i < zs.length → w.cell? (x.add i) = some (.int .i64 (zs.getD i 0))) ∧ ∀ n ∈ zs, (Lit.int .i64 n).wf = true) :
    ∃ xs, Sl w a len cap xs ∧ len ≤ cap ∧ cap ≤ maxLen := by
  obtain ⟨xs, hx⟩ := Sl.of w a len cap zs h
  refine ⟨xs, hx, ?_⟩
  rcases h with ⟨_, rfl, rfl, _⟩ | ⟨_, _, h1, h2, _⟩
  · exact ⟨Nat.le_refl _, Nat.zero_le _⟩
  · exact ⟨h1, h2⟩

theorem row_take {w : World} {a : Option Addr} {xs : List Int} (h : Row w a xs) (k : Nat) : Row w a (xs.take k) := by
  rcases h with rfl | ⟨b, off, ha, hb, hc⟩
  · left; simp
  · refine .inr ⟨b, off, ha, hb, fun j hj => ?_⟩
    rw [List.length_take] at hj
    rw [hc j (by omega)]
    have : j < k := by omega
    simp [this]

theorem bnd_of {w : World} {a : Option Addr} {len cap W : Nat} {xs : List Int} (h : Sl w a len cap xs) (hW : W ≤ len) (hn : NoNeg (xs.take W)) : ∀ t, t < W → 0 ≤ xs.getD t 0 ∧ xs.getD t 0 ≤ 9223372036854775807 := fun t ht => by
  have hs := h.size
  have ht2 : t < xs.length := by omega
  have a := hn t (by rw [List.length_take]; omega)
  have e : (xs.take W).getD t 0 = xs.getD t 0 := by simp [ht]
  rw [e] at a
  exact ⟨a, (bounds_i64 (h.fit (xs.getD t 0) (by simp [ht2]))).2⟩

theorem bytes16 (a0 a1 a2 a3 : Option Addr) (l0 c0 l1 c1 l2 c2 l3 c3 : Nat) (w : World) (h0 : l0 ≤ maxLen) (h1 : l1 ≤ maxLen) (h2 : l2 ≤ maxLen) (h3 : l3 ≤ maxLen) :
    Calls Try.prog 16 #[.slice a0 l0 c0, .slice a1 l1 c1, .slice a2 l2 c2, .slice a3 l3 c3] w fun e w' => ∃ r : Bool, e = .returned (.bool r) ∧ w' = w := by
  unfold maxLen at h0 h1 h2 h3
  go_enter Try.func16, Try.ntmps16
  go_wp2
  all_goals (go_ret; exact ⟨_, rfl, rfl⟩)

theorem zzreach {v0 v1 v2 v3 : Value} {w : World} {fd : Bool} {st : Int} {Q : World → Prop} (S : Calls Try.prog 28 #[v0, v1, v2, v3] w fun e w' => e = .returned (.tuple #[.bool fd, .int .i64 st]) ∧ Q w') :
    Calls Try.prog 17 #[v0, v1, v2, v3] w fun e w' => e = .returned (.tuple #[.bool fd, .int .i64 st]) ∧ Q w' := by
  go_enter Try.func17, Try.ntmps17
  go_wp2_with fail
  refine S.mono ?_
  rintro e w' ⟨rfl, hq⟩
  go_wp2_with fail
  go_ret2
  exact ⟨rfl, hq⟩

set_option maxHeartbeats 1000000 in
theorem law_none (a0 a1 a2 a3 : Option Addr) (c0 l1 c1 l2 c2 l3 c3 : Nat) (F O L R : List Int) (w : World) (h0 : Sl w a0 0 c0 F) (h1 : Sl w a1 l1 c1 O) (h2 : Sl w a2 l2 c2 L) (h3 : Sl w a3 l3 c3 R) :
    Calls Try.prog 5 #[.slice a0 0 c0, .slice a1 l1 c1, .slice a2 l2 c2, .slice a3 l3 c3] w fun e w' => e = .returned (.bool true) ∧ Below w.heap.size w w' := by
  have m1 := h1.max
  have m2 := h2.max
  have m3 := h3.max
  unfold maxLen at m1 m2 m3
  go_enter Try.func5, Try.ntmps5
  go_wp2_with fail
  refine (bytes16 a0 a1 a2 a3 0 c0 l1 c1 l2 c2 l3 c3 w h0.max h1.max h2.max h3.max).mono ?_
  rintro e w ⟨r, rfl, rfl⟩
  cases r with
  | false =>
    go_wp2_with fail
    go_ret
    exact ⟨rfl, Below.refl _ _⟩
  | true =>
    by_cases b1 : 32768 < l1
    · go_wp2_with fail
      go_ret
      exact ⟨rfl, Below.refl _ _⟩
    by_cases b2 : 32768 < l2
    · go_wp2_with fail
      go_ret
      exact ⟨rfl, Below.refl _ _⟩
    by_cases b3 : 32768 < l3
    · go_wp2_with fail
      go_ret
      exact ⟨rfl, Below.refl _ _⟩
    go_wp2_with fail
    refine (clone a0 0 c0 F _ h0 (by omega)).mono ?_
    rintro e w1 ⟨p0, rfl, k0, B1⟩
    have H1 := h1.below B1
    have H2 := h2.below B1
    have H3 := h3.below B1
    clear h1 h2 h3 h0 k0
    go_wp2_with fail
    refine (clone a1 l1 c1 O _ H1 (by omega)).mono ?_
    rintro e w2 ⟨p1, rfl, k1, q⟩
    have H2 := H2.below q
    have H3 := H3.below q
    have B2 : Below w.heap.size w w2 := B1.trans (q.mono B1.size)
    clear q B1 k1 H1
    go_wp2_with fail
    refine (clone a2 l2 c2 L _ H2 (by omega)).mono ?_
    rintro e w3 ⟨p2, rfl, k2, q⟩
    have H3 := H3.below q
    have B3 : Below w.heap.size w w3 := B2.trans (q.mono B2.size)
    clear q B2 k2 H2
    go_wp2_with fail
    refine (clone a3 l3 c3 R _ H3 (by omega)).mono ?_
    rintro e w4 ⟨p3, rfl, k3, q⟩
    have B4 : Below w.heap.size w w4 := B3.trans (q.mono B3.size)
    clear q B3 H3
    go_wp2_with fail
    refine (clone p3 l3 l3 R _ k3 (by omega)).mono ?_
    rintro e w5 ⟨p4, rfl, k4, q⟩
    have K3 := k3.below q
    have B5 : Below w.heap.size w w5 := B4.trans (q.mono B4.size)
    clear q B4 k3
    go_wp2_with fail
    refine (zzreach (reach_none p0 p1 p2 p4 0 l1 l1 l2 l2 l3 l3 w5)).mono ?_
    rintro e w5 ⟨rfl, rfl⟩
    go_wp2_with fail
    refine (equal_same p4 p3 l3 l3 l3 R w5 k4.row K3.row k4.size k4.max).mono ?_
    rintro e w6 ⟨rfl, n, rfl⟩
    go_wp2_with fail
    go_ret
    exact ⟨rfl, below_drewN B5 n⟩
end Go.Proofs.Qxb6604293a.Re
