import Derived.Test.Qxb6604293aScModel
namespace Go.Proofs.Qxb6604293a.Sc
open Go.RowKit

set_option maxHeartbeats 1000000 in
theorem law1 (a0 a1 : Option Addr) (l0 c0 l1 c1 : Nat) (F R : List Int) (w : World) (h0 : Sl w a0 l0 c0 F) (h1 : Sl w a1 l1 c1 R) :
    Calls Try.prog 3 #[.slice a0 l0 c0, .slice a1 l1 c1] w fun e w' => e = .returned (.bool true) ∧ Below w.heap.size w w' := by
  have m0 := h0.max
  have m1 := h1.max
  unfold maxLen at m0 m1
  have hl0 := h0.size
  have hl1 := h1.size
  go_enter Try.func3, Try.ntmps3
  go_wp2_with fail
  refine (bytes8 a0 a1 l0 c0 l1 c1 w h0.max h1.max).mono ?_
  rintro e w ⟨r, rfl, rfl⟩
  cases r with
  | false =>
    go_wp2_with fail
    go_ret
    exact ⟨rfl, Below.refl _ _⟩
  | true =>
    by_cases b0 : 65536 < l0
    · go_wp2_with fail
      go_ret
      exact ⟨rfl, Below.refl _ _⟩
    by_cases b1 : 65536 < l1
    · go_wp2_with fail
      go_ret
      exact ⟨rfl, Below.refl _ _⟩
    by_cases b2 : l1 = 0
    · subst b2
      go_wp2_with fail
      go_ret
      exact ⟨rfl, Below.refl _ _⟩
    have b3 : ((l1 : Int) == 0) = false := by simpa using b2
    go_wp2_with fail
    refine (nonneg a0 l0 c0 F _ hl0 h0.max h0.row).mono ?_
    rintro e w ⟨r, rfl, hs0, rfl⟩
    cases r with
    | false =>
      go_wp2_with fail
      go_ret
      exact ⟨rfl, Below.refl _ _⟩
    | true =>
      replace hs0 := hs0 rfl
      go_wp2_with fail
      refine (nonneg a1 l1 c1 R _ hl1 h1.max h1.row).mono ?_
      rintro e w ⟨r, rfl, hs1, rfl⟩
      cases r with
      | false =>
        go_wp2_with fail
        go_ret
        exact ⟨rfl, Below.refl _ _⟩
      | true =>
        replace hs1 := hs1 rfl
        have nF := Nn.of h0 hs0
        have nR := Nn.of h1 hs1
        clear hs0 hs1
        go_wp2_with fail
        refine (clone a0 l0 c0 F _ h0 (by omega)).mono ?_
        rintro e w1 ⟨p0, rfl, k0, B1⟩
        have H1 := h1.below B1
        go_wp2_with fail
        refine (clone a1 l1 c1 R _ H1 (by omega)).mono ?_
        rintro e w2 ⟨p1, rfl, k1, q2⟩
        have K0 := k0.below q2
        have B2 : Below w.heap.size w w2 := B1.trans (q2.mono B1.size)
        clear q2 k0 H1 B1 h0 h1
        have SC := zzscan p0 p1 l0 l0 l1 l1 F R w2 K0.row k1.row hl0 hl1 (Nat.le_refl _) K0.max (Nat.le_refl _) k1.max nF nR (by omega)
        have MD := fun n => model_any p0 p1 l0 l0 l1 l1 F R (w2.drewN n) (K0.row.drewN n) (k1.row.drewN n) hl0 hl1 (by omega) (by omega) (by omega)
        obtain ⟨fd, st, hans⟩ : ∃ fd st, ans F R = (fd, st) := ⟨_, _, rfl⟩
        rw [hans] at SC
        simp only [hans] at MD
        clear hans
        go_wp2_with fail
        refine SC.mono ?_
        rintro e w3 ⟨rfl, n, rfl⟩
        go_wp2_with fail
        refine (MD n).mono ?_
        rintro e w3 ⟨rfl, n', rfl⟩
        clear MD SC
        go_wp2_with fail
        go_ret
        exact ⟨rfl, below_drewN B2 _⟩
end Go.Proofs.Qxb6604293a.Sc
