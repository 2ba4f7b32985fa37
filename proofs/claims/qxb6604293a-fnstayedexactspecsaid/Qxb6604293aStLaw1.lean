import Derived.Test.Qxb6604293aStStayed
namespace Go.Proofs.Qxb6604293a.St
open Go.RowKit

set_option maxHeartbeats 1000000 in
theorem law1 (a0 a1 : Option Addr) (l0 c0 l1 c1 : Nat) (ps rs : List Int) (w : World) (h0 : Sl w a0 l0 c0 ps) (h1 : Sl w a1 l1 c1 rs) :
    Calls Try.prog 6 #[.slice a0 l0 c0, .slice a1 l1 c1] w fun e w' => e = .returned (.bool true) ∧ Below w.heap.size w w' := by
  have m0 := h0.max
  have m1 := h1.max
  unfold maxLen at m0 m1
  have hl0 := h0.size
  have hl1 := h1.size
  go_enter Try.func6, Try.ntmps6
  go_wp2_with fail
  refine (bytes_any a0 a1 l0 c0 l1 c1 w h0.max h1.max).mono ?_
  rintro e w ⟨r, rfl, rfl⟩
  cases r with
  | false =>
    go_wp2_with fail
    go_ret
    exact ⟨rfl, Below.refl _ _⟩
  | true =>
    by_cases b0 : 65536 < l0
    · go_wp2_with fail
      go_ret
      exact ⟨rfl, Below.refl _ _⟩
    by_cases b1 : 65536 < l1
    · go_wp2_with fail
      go_ret
      exact ⟨rfl, Below.refl _ _⟩
    go_wp2_with fail
    refine (nondec a0 l0 c0 ps _ hl0 h0.max h0.row).mono ?_
    rintro e w' ⟨r, rfl, hs0, n, rfl⟩
    cases r with
    | false =>
      go_wp2_with fail
      go_ret
      exact ⟨rfl, below_drewN (Below.refl _ _) n⟩
    | true =>
      replace hs0 := hs0 rfl
      go_wp2_with fail
      refine (nondec a1 l1 c1 rs _ hl1 h1.max (h1.row.drewN n)).mono ?_
      rintro e w' ⟨r, rfl, hs1, n', rfl⟩
      cases r with
      | false =>
        go_wp2_with fail
        go_ret
        exact ⟨rfl, below_drewN (Below.refl _ _) (n + n')⟩
      | true =>
        replace hs1 := hs1 rfl
        go_wp2_with fail
        refine (clone a0 l0 c0 ps _ (h0.drewN (n + n')) (by omega)).mono ?_
        rintro e w1 ⟨p0, rfl, k0, q1⟩
        have B1 : Below w.heap.size w w1 := (below_drewN (Below.refl _ w) (n + n')).trans q1
        have H1 := h1.below B1
        clear q1
        go_wp2_with fail
        refine (clone a1 l1 c1 rs _ H1 (by omega)).mono ?_
        rintro e w2 ⟨p1, rfl, k1, q2⟩
        have K0 := k0.below q2
        have B2 : Below w.heap.size w w2 := B1.trans (q2.mono B1.size)
        clear q2 k0 H1
        go_wp2_with fail
        refine (zzstayed p0 p1 l0 l0 l1 l1 ps rs _ K0 k1 (by omega) (by omega) hs0).mono ?_
        rintro e w3 ⟨a2, c2, rfl, r2, hn2, q3⟩
        have K0 := K0.below q3
        have K1 := k1.below q3
        have B3 : Below w.heap.size w w3 := B2.trans (q3.mono B2.size)
        clear q3 k1 B1 B2 h0 h1
        obtain ⟨m, hm⟩ : ∃ m, (kept sub rs ps).length = m := ⟨_, rfl⟩
        have hml : m ≤ l0 := by have := kept_len sub rs ps; omega
        rw [hm]
        have HM : Hid ((kept sub rs ps).length = m) := hm
        clear hm
        have hnn : Hid (a2 = none ↔ m = 0) := by
          show a2 = none ↔ m = 0
          rw [hn2, ← HM.out]
          simp
        clear hn2
        go_wp2_with fail
        go_loop [6, 7] (fun nn jj => ∃ j : Nat, j ≤ l0 ∧ jj = .int .i64 j ∧ nn = .int .i64 (kept sub rs (ps.take j)).length) (fun _ jj => l0 - (intOf jj).toNat)
        case atStart => exact ⟨0, Nat.zero_le _, rfl, rfl⟩
        case round =>
          obtain ⟨j, hj, rfl, rfl⟩ := hrel
          obtain ⟨t, ht⟩ : ∃ t, (kept sub rs (ps.take j)).length = t := ⟨_, rfl⟩
          have htl : t ≤ j := by have := kept_take_len sub rs ps j; omega
          rw [ht]
          have HT : Hid ((kept sub rs (ps.take j)).length = t) := ht
          clear ht
          by_cases hlt : j < l0
          · obtain ⟨b0, o0, rfl, hb0, hc0⟩ := K0.row.at (k := j) (by omega)
            obtain ⟨x, cx, X⟩ := hc0.get j (by omega)
            have L := lower p1 l1 l1 rs x w3 hl1 K1.max hs1 K1.row
            obtain ⟨q, hq⟩ : ∃ q, lb rs x = q := ⟨_, rfl⟩
            rw [hq] at L
            have hql : q ≤ l1 := by have := lb_le rs x; omega
            have HQ : Hid (lb rs x = q) := hq
            clear hq
            by_cases hq1 : q < l1
            · obtain ⟨b1, o1, rfl, hb1, hc1⟩ := K1.row.at (k := q) (by omega)
              obtain ⟨y, cy, Y⟩ := hc1.get q (by omega)
              by_cases hyx : y = x
              · subst hyx
                have hhit : Hid (hit rs y = true) := by
                  show hit rs y = true
                  unfold hit; rw [HQ.out, Y.out]; simp; omega
                go_wp2_with fail
                refine L.mono ?_
                rintro e w4 ⟨rfl, rfl⟩
                go_wp2_with fail
                go_round
                case rel => exact ⟨j + 1, by omega, by go_num, by rw [kept_take_hit sub rs ps j (by omega) (by rw [X.out]; exact hhit.out), HT.out]⟩
                case measure => simp [intOf]; omega
              · have hmiss : Hid (hit rs x = false) := by
                  show hit rs x = false
                  unfold hit; rw [HQ.out, Y.out]; simp; omega
                have N := kept_at sub rs ps j (by omega) (by rw [X.out]; exact hmiss.out)
                rw [HT.out, HM.out, X.out, HQ.out] at N
                obtain ⟨n1, n2⟩ := N
                obtain ⟨b2, o2, rfl, hb2, hc2⟩ := r2.at (k := t) (by rw [HM.out]; exact n1)
                have cz : w3.cell? ⟨b2, o2 + t, none⟩ = some (.int .i64 (wrap64 (x - (q : Int)))) := by rw [hc2 t (by rw [HM.out]; exact n1), n2]; rfl
                clear n2
                go_wp2_with fail
                refine L.mono ?_
                rintro e w4 ⟨rfl, rfl⟩
                go_wp2_with fail
                go_round
                case rel => exact ⟨j + 1, by omega, by go_num, by rw [kept_take_miss sub rs ps j (by omega) (by rw [X.out]; exact hmiss.out), List.length_append, HT.out]; go_num⟩
                case measure => simp [intOf]; omega
            · have hmiss : Hid (hit rs x = false) := by
                show hit rs x = false
                unfold hit; rw [HQ.out]; simp; omega
              have N := kept_at sub rs ps j (by omega) (by rw [X.out]; exact hmiss.out)
              rw [HT.out, HM.out, X.out, HQ.out] at N
              obtain ⟨n1, n2⟩ := N
              obtain ⟨b2, o2, rfl, hb2, hc2⟩ := r2.at (k := t) (by rw [HM.out]; exact n1)
              have cz : w3.cell? ⟨b2, o2 + t, none⟩ = some (.int .i64 (wrap64 (x - (q : Int)))) := by rw [hc2 t (by rw [HM.out]; exact n1), n2]; rfl
              clear n2
              go_wp2_with fail
              refine L.mono ?_
              rintro e w4 ⟨rfl, rfl⟩
              go_wp2_with fail
              go_round
              case rel => exact ⟨j + 1, by omega, by go_num, by rw [kept_take_miss sub rs ps j (by omega) (by rw [X.out]; exact hmiss.out), List.length_append, HT.out]; go_num⟩
              case measure => simp [intOf]; omega
          · obtain rfl : j = l0 := by omega
            have htm : t = m := by
              have e := HT.out
              rw [List.take_of_length_le (by omega), HM.out] at e
              exact e.symm
            subst htm
            by_cases h0 : t = 0
            · subst h0
              obtain rfl := hnn.out.2 rfl
              have hq := fun w => Lib.run_eql_slice_nil (P := Try.prog) w 33 3 none 0 c2 0 0 Try.underlying33
              go_wp2_with fail
              go_ret
              exact ⟨rfl, B3⟩
            · obtain ⟨ad, rfl⟩ : ∃ ad, a2 = some ad := by
                cases a2 with
                | none => exact absurd (hnn.out.1 rfl) h0
                | some ad => exact ⟨ad, rfl⟩
              have hq := fun w => Lib.run_eql_slice_nil (P := Try.prog) w 33 3 (some ad) t c2 0 0 Try.underlying33
              have ht0 : ((t : Int) == 0) = false := by simpa using h0
              go_wp2_with fail
              go_ret
              exact ⟨rfl, B3⟩
end Go.Proofs.Qxb6604293a.St
