import Derived.Test.Qxb6604293aStStayed
namespace Go.Proofs.Qxb6604293a.St
open Go.RowKit

theorem bytes_any2 (a0 a1 : Option Addr) (l0 c0 l1 c1 : Nat) (w : World) (h0 : l0 ≤ maxLen) (h1 : l1 ≤ maxLen) :
    Calls Try.prog 25 #[.slice a0 l0 c0, .slice a1 l1 c1] w fun e w' => ∃ r : Bool, e = .returned (.bool r) ∧ w' = w := by
  unfold maxLen at h0 h1
  go_enter Try.func25, Try.ntmps25
  go_wp2
  all_goals (go_ret; exact ⟨_, rfl, rfl⟩)

set_option maxHeartbeats 400000 in
theorem strict (a : Option Addr) (len cap : Nat) (xs : List Int) (w : World) (hl : xs.length = len) (hm : len ≤ maxLen) (hr : Row w a xs) :
    Calls Try.prog 26 #[.slice a len cap] w fun e w' => ∃ r : Bool, e = .returned (.bool r) ∧ (r = true → Str xs) ∧ ∃ n, w' = w.drewN n := by
  unfold maxLen at hm
  go_enter Try.func26, Try.ntmps26
  go_wp2
  go_loopw [3] (fun i wr => ∃ k n : Nat, k ≤ len ∧ i = .int .i64 k ∧ (∀ j, j < k → 0 ≤ xs.getD j 0) ∧ (∀ j, j + 1 < k → xs.getD j 0 < xs.getD (j + 1) 0) ∧ wr = w.drewN n) (fun i _ => len - (intOf i).toNat)
  case atStart => exact ⟨0, 0, by omega, rfl, fun j h => absurd h (by omega), fun j h => absurd h (by omega), rfl⟩
  case round =>
    obtain ⟨k, n, hk, rfl, hn, hs, rfl⟩ := hrel
    by_cases hlt : k < len
    · obtain ⟨b, off, rfl, hb, hc⟩ := hr.at (k := k) (by omega)
      obtain ⟨y, c2, Y⟩ := hc.get k (by omega)
      by_cases hneg : y < 0
      · go_wp2
        go_ret
        exact ⟨false, rfl, by simp, _, rfl⟩
      by_cases hk0 : k = 0
      · subst hk0
        rw [Nat.add_zero] at c2
        go_wp2
        go_quiet (fail)
        go_wp2
        go_roundw
        case rel =>
          refine ⟨1, n + nq, by omega, by go_num, fun j hj => ?_, fun j h => absurd h (by omega), rfl⟩
          obtain rfl : j = 0 := by omega
          rw [Y.out]; omega
        case measure => simp [intOf]; omega
      · obtain ⟨m, rfl⟩ : ∃ m, k = m + 1 := ⟨k - 1, by omega⟩
        obtain ⟨x, c1, X⟩ := hc.get m (by omega)
        have hpos : (0 : Int) < (m : Int) + 1 := by omega
        by_cases hv : y ≤ x
        · go_wp2
          go_quiet (fail)
          go_wp2
          go_ret
          exact ⟨false, rfl, by simp, n + nq, by simp⟩
        · go_wp2
          go_quiet (fail)
          go_wp2
          go_roundw
          case rel =>
            refine ⟨m + 1 + 1, n + nq, by omega, by go_num, fun j hj => ?_, fun j hj => ?_, rfl⟩
            · by_cases e : j = m + 1
              · subst e; rw [Y.out]; omega
              · exact hn j (by omega)
            · by_cases e : j = m
              · subst e; rw [X.out, Y.out]; omega
              · exact hs j (by omega)
          case measure => simp [intOf]; omega
    · go_wp2
      go_ret
      exact ⟨true, rfl, fun _ => ⟨fun i hi => hn i (by omega), fun i hi => hs i (by omega)⟩, _, rfl⟩

theorem sub_plain (rs : List Int) (hr : Str rs) (p : Int) (hp : 0 ≤ p) (hf : (Lit.int .i64 p).wf = true) : sub p (lb rs p) = p - (lb rs p : Int) := by
  have a := lb_below hr p hp
  have b := bounds_i64 hf
  unfold sub
  exact IntWalk.wrap64_in _ ⟨by omega, by omega⟩

set_option maxHeartbeats 1000000 in
theorem law2 (a0 a1 : Option Addr) (l0 c0 l1 c1 : Nat) (ps rs : List Int) (w : World) (h0 : Sl w a0 l0 c0 ps) (h1 : Sl w a1 l1 c1 rs) :
    Calls Try.prog 7 #[.slice a0 l0 c0, .slice a1 l1 c1] w fun e w' => e = .returned (.bool true) ∧ Below w.heap.size w w' := by
  have m0 := h0.max
  have m1 := h1.max
  unfold maxLen at m0 m1
  have hl0 := h0.size
  have hl1 := h1.size
  go_enter Try.func7, Try.ntmps7
  go_wp2_with fail
  refine (bytes_any2 a0 a1 l0 c0 l1 c1 w h0.max h1.max).mono ?_
  rintro e w ⟨r, rfl, rfl⟩
  cases r with
  | false =>
    go_wp2_with fail
    go_ret
    exact ⟨rfl, Below.refl _ _⟩
  | true =>
    by_cases b0 : 65536 < l0
    · go_wp2_with fail
      go_ret
      exact ⟨rfl, Below.refl _ _⟩
    by_cases b1 : 65536 < l1
    · go_wp2_with fail
      go_ret
      exact ⟨rfl, Below.refl _ _⟩
    go_wp2_with fail
    refine (strict a0 l0 c0 ps _ hl0 h0.max h0.row).mono ?_
    rintro e w' ⟨r, rfl, hs0, n, rfl⟩
    cases r with
    | false =>
      go_wp2_with fail
      go_ret
      exact ⟨rfl, below_drewN (Below.refl _ _) n⟩
    | true =>
      replace hs0 := hs0 rfl
      go_wp2_with fail
      refine (strict a1 l1 c1 rs _ hl1 h1.max (h1.row.drewN n)).mono ?_
      rintro e w' ⟨r, rfl, hs1, n', rfl⟩
      cases r with
      | false =>
        go_wp2_with fail
        go_ret
        exact ⟨rfl, below_drewN (Below.refl _ _) (n + n')⟩
      | true =>
        replace hs1 := hs1 rfl
        go_wp2_with fail
        refine (clone a0 l0 c0 ps _ (h0.drewN (n + n')) (by omega)).mono ?_
        rintro e w1 ⟨p0, rfl, k0, q1⟩
        have B1 : Below w.heap.size w w1 := (below_drewN (Below.refl _ w) (n + n')).trans q1
        have H1 := h1.below B1
        clear q1
        go_wp2_with fail
        refine (clone a1 l1 c1 rs _ H1 (by omega)).mono ?_
        rintro e w2 ⟨p1, rfl, k1, q2⟩
        have K0 := k0.below q2
        have B2 : Below w.heap.size w w2 := B1.trans (q2.mono B1.size)
        clear q2 k0 H1
        go_wp2_with fail
        refine (zzstayed p0 p1 l0 l0 l1 l1 ps rs _ K0 k1 (by omega) (by omega) hs0.asc).mono ?_
        rintro e w3 ⟨a2, c2, rfl, r2, hn2, q3⟩
        have K0 := K0.below q3
        have K1 := k1.below q3
        have B3 : Below w.heap.size w w3 := B2.trans (q3.mono B2.size)
        clear q3 k1 B1 B2 h0 h1
        have G := kept_good sub rs ps hs1 hs0 (fun p hp => sub_plain rs hs1 p (by
          obtain ⟨i, hi, rfl⟩ := List.getElem_of_mem hp
          simpa [hi] using hs0.nn i hi) (K0.fit p hp))
        have KH := kept_hits sub rs ps
        obtain ⟨K, hK⟩ : ∃ K, kept sub rs ps = K := ⟨_, rfl⟩
        rw [hK] at r2 G KH
        rw [hK]
        clear hK hn2
        obtain ⟨m, hm⟩ : ∃ m, K.length = m := ⟨_, rfl⟩
        rw [hm]
        have HM : Hid (K.length = m) := hm
        have HH : Hid (K.length + hits rs ps = ps.length) := KH
        have hml : m ≤ l0 := by omega
        clear hm KH
        have G1 : ∀ j, j < m → 0 ≤ K.getD j 0 := fun j hj => by
          have hj' : j < K.length := by rw [HM.out]; exact hj
          exact G.1 _ (by simp [hj'])
        have G2 : ∀ j, j + 1 < m → K.getD j 0 < K.getD (j + 1) 0 := fun j hj => pairwise_at G.2.1 j (by rw [HM.out]; exact hj)
        have GG : Hid ((∀ j, j < m → 0 ≤ K.getD j 0) ∧ (∀ j, j + 1 < m → K.getD j 0 < K.getD (j + 1) 0)) := ⟨G1, G2⟩
        clear G G1 G2
        go_wp2_with fail
        go_loopw [6, 7] (fun cc jj wr => ∃ j n : Nat, j ≤ l0 ∧ jj = .int .i64 j ∧ cc = .int .i64 (hits rs (ps.take j)) ∧ wr = w3.drewN n) (fun _ jj _ => l0 - (intOf jj).toNat)
        case atStart => exact ⟨0, 0, Nat.zero_le _, rfl, rfl, rfl⟩
        case round =>
          obtain ⟨j, nd, hj, rfl, rfl, rfl⟩ := hrel
          obtain ⟨t, ht⟩ : ∃ t, hits rs (ps.take j) = t := ⟨_, rfl⟩
          have htl : t ≤ j := by have := hits_le rs (ps.take j); have := List.length_take_le j ps; omega
          rw [ht]
          have HT : Hid (hits rs (ps.take j) = t) := ht
          clear ht
          by_cases hlt : j < l0
          · obtain ⟨b0, o0, rfl, hb0, hc0⟩ := K0.row.at (k := j) (by omega)
            obtain ⟨x, cx, X⟩ := hc0.get j (by omega)
            have L := lower p1 l1 l1 rs x (w3.drewN nd) hl1 K1.max hs1.asc (K1.row.drewN nd)
            have HS : Hid (hits rs (ps.take (j + 1)) = hits rs (ps.take j) + if hit rs (ps.getD j 0) = true then 1 else 0) := hits_take rs ps j (by omega)
            obtain ⟨q, hq⟩ : ∃ q, lb rs x = q := ⟨_, rfl⟩
            rw [hq] at L
            have hql : q ≤ l1 := by have := lb_le rs x; omega
            have HQ : Hid (lb rs x = q) := hq
            clear hq
            by_cases hq1 : q < l1
            · obtain ⟨b1, o1, rfl, hb1, hc1⟩ := K1.row.at (k := q) (by omega)
              obtain ⟨y, cy, Y⟩ := hc1.get q (by omega)
              by_cases hyx : y = x
              · subst hyx
                have hhit : Hid (hit rs y = true) := by
                  show hit rs y = true
                  unfold hit; rw [HQ.out, Y.out]; simp; omega
                go_wp2_with fail
                refine L.mono ?_
                rintro e w4 ⟨rfl, rfl⟩
                go_wp2_with fail
                go_quiet (fail)
                go_wp2
                go_roundw
                case rel => exact ⟨j + 1, nd + nq, by omega, by go_num, by rw [HS.out, X.out, hhit.out, HT.out]; go_num, by simp⟩
                case measure => simp [intOf]; omega
              · have hmiss : Hid (hit rs x = false) := by
                  show hit rs x = false
                  unfold hit; rw [HQ.out, Y.out]; simp; omega
                go_wp2_with fail
                refine L.mono ?_
                rintro e w4 ⟨rfl, rfl⟩
                go_wp2_with fail
                go_quiet (fail)
                go_wp2
                go_roundw
                case rel => exact ⟨j + 1, nd + nq, by omega, by go_num, by rw [HS.out, X.out, hmiss.out, HT.out]; go_num, by simp⟩
                case measure => simp [intOf]; omega
            · have hmiss : Hid (hit rs x = false) := by
                show hit rs x = false
                unfold hit; rw [HQ.out]; simp; omega
              have hd : decide ((q : Int) < (l1 : Int)) = false := decide_eq_false (by omega)
              go_wp2_with fail
              refine L.mono ?_
              rintro e w4 ⟨rfl, rfl⟩
              go_wp2_with fail
              go_quiet (fail)
              go_wp2
              go_roundw
              case rel => exact ⟨j + 1, nd + nq, by omega, by go_num, by rw [HS.out, X.out, hmiss.out, HT.out]; go_num, by simp⟩
              case measure => simp [intOf]; omega
          · obtain rfl : j = l0 := by omega
            have htm : Hid (m + t = j) := by
              have e := HT.out
              have e2 := HH.out
              rw [List.take_of_length_le (by omega)] at e
              have e3 := HM.out
              show m + t = j
              omega
            have hne : ((m : Int) != (j : Int) - (t : Int)) = false := by have := htm.out; simp; omega
            go_wp2_with fail
            clear hne htm
            go_loopw [9] (fun ii wr => ∃ i n : Nat, i ≤ m ∧ ii = .int .i64 i ∧ wr = w3.drewN n) (fun ii _ => m - (intOf ii).toNat)
            case atStart => exact ⟨0, nd, Nat.zero_le _, rfl, rfl⟩
            case round =>
              obtain ⟨i, nd, hi, rfl, rfl⟩ := hrel
              by_cases hlt : i < m
              · obtain ⟨b2, o2, rfl, hb2, hc2⟩ := r2.at (k := i) (by rw [HM.out]; exact hlt)
                obtain ⟨y, cy, Y⟩ := hc2.get i (by rw [HM.out]; exact hlt)
                have hy0 : 0 ≤ y := by have := GG.out.1 i hlt; rw [Y.out] at this; exact this
                by_cases hi0 : i = 0
                · subst hi0
                  rw [Nat.add_zero] at cy
                  go_wp2
                  go_quiet (fail)
                  go_wp2
                  go_roundw
                  case rel => exact ⟨1, nd + nq, by omega, by go_num, by simp⟩
                  case measure => simp [intOf]; omega
                · obtain ⟨r, rfl⟩ : ∃ r, i = r + 1 := ⟨i - 1, by omega⟩
                  obtain ⟨x, cx, X⟩ := hc2.get r (by rw [HM.out]; omega)
                  have hxy : x < y := by have := GG.out.2 r hlt; rw [Y.out, X.out] at this; exact this
                  have hpos : (0 : Int) < (r : Int) + 1 := by omega
                  go_wp2
                  go_quiet (fail)
                  go_wp2
                  go_roundw
                  case rel => exact ⟨r + 1 + 1, nd + nq, by omega, by go_num, by simp⟩
                  case measure => simp [intOf]; omega
              · go_wp2
                go_ret
                exact ⟨rfl, below_drewN B3 nd⟩
end Go.Proofs.Qxb6604293a.St
