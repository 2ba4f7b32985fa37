import Derived.Test.Qxb6604786aGrZZ
import Derived.Test.Qxb6604786aGrOrder
namespace Go.Proofs.Qxb6604786a.Gr
open Go.RowKit

set_option maxHeartbeats 2000000 in
/-- the inputs that the law's guards let by -/
theorem early2 (N : Int) (a1 a2 : Option Addr) (l1 c1 l2 c2 : Nat) (w : World) (m1 : l1 ≤ maxLen) (m2 : l2 ≤ maxLen) (hN : (Lit.int .i64 N).wf = true)
    (hout : ¬ (l1 ≤ 65536 ∧ l2 ≤ 65536 ∧ 0 ≤ N ∧ N ≤ 65536 ∧ l1 = l2)) :
    Calls Try.prog 3 #[.int .i64 N, .slice a1 l1 c1, .slice a2 l2 c2] w fun e w' => e = .returned (.bool true) ∧ Below w.heap.size w w' := by
  have bN := bounds_i64 hN
  have BY := bytes7 N a1 a2 l1 c1 l2 c2 w m1 m2
  unfold maxLen at m1 m2
  go_enter Try.func3, Try.ntmps3
  go_wp2_with fail
  refine BY.mono ?_
  rintro e w ⟨r, rfl, rfl⟩
  cases r with
  | false =>
    go_wp2_with fail
    go_ret
    exact ⟨rfl, Below.refl _ _⟩
  | true =>
    by_cases b1 : 65536 < l1
    · clear hout
      go_wp2_with fail
      go_ret
      exact ⟨rfl, Below.refl _ _⟩
    by_cases b2 : 65536 < l2
    · clear hout
      go_wp2_with fail
      go_ret
      exact ⟨rfl, Below.refl _ _⟩
    by_cases n0 : N < 0
    · clear hout
      go_wp2_with fail
      go_ret
      exact ⟨rfl, Below.refl _ _⟩
    by_cases n1 : 65536 < N
    · clear hout
      go_wp2_with fail
      go_ret
      exact ⟨rfl, Below.refl _ _⟩
    have e1 : ¬ l1 = l2 := fun h => hout ⟨by omega, by omega, by omega, by omega, h⟩
    clear hout
    go_wp2_with fail
    go_ret
    exact ⟨rfl, Below.refl _ _⟩

set_option maxHeartbeats 2000000 in
theorem main2 (n : Nat) (a1 a2 : Option Addr) (m c1 c2 : Nat) (fs ts : List Int) (w : World) (hn : n ≤ 65536) (b1 : m ≤ 65536) (h1 : Sl w a1 m c1 fs) (h2 : Sl w a2 m c2 ts) :
    Calls Try.prog 3 #[.int .i64 n, .slice a1 m c1, .slice a2 m c2] w fun e w' => e = .returned (.bool true) ∧ Below w.heap.size w w' := by
  have f1 := h1.size
  have t1 := h2.size
  go_enter Try.func3, Try.ntmps3
  go_wp2_with fail
  refine (bytes7 n a1 a2 m c1 m c2 w h1.max h2.max).mono ?_
  rintro e w ⟨r, rfl, rfl⟩
  cases r with
  | false =>
    go_wp2_with fail
    go_ret
    exact ⟨rfl, Below.refl _ _⟩
  | true =>
    go_wp2_with fail
    refine (among n a1 a2 m c1 c2 fs ts w h1 h2).mono ?_
    rintro e w ⟨r, rfl, s1, rfl⟩
    cases r with
    | false =>
      go_wp2_with fail
      go_ret
      exact ⟨rfl, Below.refl _ _⟩
    | true =>
      replace s1 := (s1 rfl).2
      go_wp2_with fail
      refine (clone a1 m c1 fs _ h1 (by omega)).mono ?_
      rintro e w1 ⟨p1, rfl, k1, B1⟩
      have H2 := h2.below B1
      clear h1 h2
      go_wp2_with fail
      refine (clone a2 m c2 ts _ H2 (by omega)).mono ?_
      rintro e w2 ⟨p2, rfl, k2, q⟩
      have K1 := k1.below q
      have B2 : Below w.heap.size w w2 := B1.trans (q.mono B1.size)
      clear q B1 H2 k1
      go_wp2_with fail
      refine (zzgraph p1 p2 m m m n fs ts w2 K1.row k2.row f1 t1 s1 (by omega) hn).mono ?_
      rintro e w3 ⟨gs, gf, S, G, rfl, os, og, sp, q⟩
      have K1 := K1.below q
      have K2 := k2.below q
      have B3 : Below w.heap.size w w3 := B2.trans (q.mono B2.size)
      clear q B2 k2
      go_wp2_with fail
      refine (order_any p2 m m ts w3 K2.row t1 b1).mono ?_
      rintro e w4 ⟨go, A, rfl, oo, so, q⟩
      have K1 := K1.below q
      have K2 := K2.below q
      have os := os.below q os.lt
      have og := og.below q og.lt
      have B4 : Below w.heap.size w w4 := B3.trans (q.mono B3.size)
      have hAl : Hid (A.length = m) := by show A.length = m; rw [so.2.length_eq, List.length_range]; exact t1
      clear q B3
      go_wp2_with fail
      go_loop [11, 12] (fun kv uv => ∃ k u : Nat, u ≤ n + 1 ∧ k ≤ m ∧ k ≤ cnt ts (u : Int) ∧ kv = .int .i64 k ∧ uv = .int .i64 u) (fun _ uv => n + 1 - (intOf uv).toNat)
      case atStart => exact ⟨0, 0, by omega, by omega, by omega, rfl, rfl⟩
      case round =>
        obtain ⟨k, u, hu, hk, hkc, rfl, rfl⟩ := hrel
        have hcl := cnt_le ts (u : Int)
        rw [t1] at hcl
        have hnx := cnt_mono ts (u : Int) ((u : Int) + 1) (by omega)
        by_cases hlt : u ≤ n
        · have csu : w4.cell? ⟨gs, u, none⟩ = some (.int .i64 ((cnt ts (u : Int) : Nat) : Int)) := by rw [os.int u (by rw [sp.slen]; omega), sp.sat u hlt]
          obtain ⟨c, hc⟩ : ∃ c, cnt ts (u : Int) = c := ⟨_, rfl⟩
          rw [hc] at hcl hkc csu hnx
          have HC : Hid (cnt ts (u : Int) = c) := hc
          have HX : Hid (c ≤ cnt ts ((u : Int) + 1)) := hnx
          clear hc hnx
          go_wp2_with fail
          go_loop [11] (fun kv => ∃ k : Nat, k ≤ c ∧ kv = .int .i64 k) (fun kv => c - (intOf kv).toNat)
          case atStart => exact ⟨k, hkc, rfl⟩
          case round =>
            clear hk hkc
            obtain ⟨k, hk, rfl⟩ := hrel
            by_cases hkc : k < c
            · have hkm : (k : Int) < (m : Int) := by omega
              obtain ⟨hx, _⟩ := so.pos k (by omega)
              have hb := (so.below k (by omega) (u : Int)).2 (by rw [HC.out]; exact hkc)
              have ca := own_nat oo k (by rw [hAl.out]; omega)
              obtain ⟨x, hxx⟩ : ∃ x, A.getD k 0 = x := ⟨_, rfl⟩
              rw [hxx] at hx hb ca
              clear hxx
              obtain ⟨b0, o0, rfl, hb0, hc0⟩ := K2.row.at (j := x) (by omega)
              obtain ⟨p, cp, P⟩ := hc0.get x (by omega)
              rw [P.out] at hb
              have bp := bounds_i32 (K2.fit p (by rw [← P.out]; simp [hx]))
              rw [t1] at hx
              have hxI : (x : Int) < (m : Int) := by omega
              go_wp2
              go_round
              case rel => exact ⟨k + 1, by omega, by go_num⟩
              case measure => simp [intOf]; omega
            · obtain rfl : k = c := by omega
              by_cases hkm : k < m
              · obtain ⟨hx, _⟩ := so.pos k (by omega)
                have hb : ¬ ts.getD (A.getD k 0) 0 < (u : Int) := fun h => by
                  have := (so.below k (by omega) (u : Int)).1 h
                  rw [HC.out] at this
                  omega
                have ca := own_nat oo k (by rw [hAl.out]; omega)
                obtain ⟨x, hxx⟩ : ∃ x, A.getD k 0 = x := ⟨_, rfl⟩
                rw [hxx] at hx hb ca
                clear hxx
                obtain ⟨b0, o0, rfl, hb0, hc0⟩ := K2.row.at (j := x) (by omega)
                obtain ⟨p, cp, P⟩ := hc0.get x (by omega)
                rw [P.out] at hb
                have bp := bounds_i32 (K2.fit p (by rw [← P.out]; simp [hx]))
                rw [t1] at hx
                have hxI : (x : Int) < (m : Int) := by omega
                go_wp2
                go_round
                case rel => exact ⟨k, u + 1, by omega, by omega, HX.out, rfl, by go_num⟩
                case measure => simp [intOf]; omega
              · go_wp2
                go_round
                case rel => exact ⟨k, u + 1, by omega, by omega, HX.out, rfl, by go_num⟩
                case measure => simp [intOf]; omega
        · go_wp2
          go_loopw [13] (fun jv wr => ∃ j d : Nat, j ≤ m ∧ jv = .int .i64 j ∧ wr = w4.drewN d) (fun jv _ => m - (intOf jv).toNat)
          case atStart => exact ⟨0, 0, Nat.zero_le _, rfl, rfl⟩
          case round =>
            obtain ⟨j, d, hj, rfl, rfl⟩ := hrel
            by_cases hjm : j < m
            · obtain ⟨hx, hp⟩ := so.pos j (by omega)
              have ca := own_nat oo j (by rw [hAl.out]; omega)
              have hG := sp.gat (A.getD j 0) hx
              rw [hp] at hG
              have cg := og.int j (by rw [sp.glen]; omega)
              rw [hG] at cg
              obtain ⟨x, hxx⟩ : ∃ x, A.getD j 0 = x := ⟨_, rfl⟩
              rw [hxx] at hx ca cg
              clear hxx hG hp
              obtain ⟨b0, o0, rfl, hb0, hc0⟩ := K1.row.at (j := x) (by omega)
              obtain ⟨p, cp, P⟩ := hc0.get x (by omega)
              rw [P.out] at cg
              rw [t1] at hx
              have hxI : (x : Int) < (m : Int) := by omega
              have hjI : (j : Int) < (m : Int) := by omega
              go_wp2
              go_quiet (fail)
              go_wp2
              go_roundw
              case rel => exact ⟨j + 1, _, by omega, by go_num, rfl⟩
              case measure => simp [intOf]; omega
            · go_wp2
              go_ret
              exact ⟨rfl, below_drewN B4 _⟩

theorem law2 (N : Int) (a1 a2 : Option Addr) (l1 c1 l2 c2 : Nat) (fs ts : List Int) (w : World) (hN : (Lit.int .i64 N).wf = true) (h1 : Sl w a1 l1 c1 fs) (h2 : Sl w a2 l2 c2 ts) :
    Calls Try.prog 3 #[.int .i64 N, .slice a1 l1 c1, .slice a2 l2 c2] w fun e w' => e = .returned (.bool true) ∧ Below w.heap.size w w' := by
  by_cases hin : l1 ≤ 65536 ∧ l2 ≤ 65536 ∧ 0 ≤ N ∧ N ≤ 65536 ∧ l1 = l2
  · obtain ⟨b1, _, n0, n1, rfl⟩ := hin
    obtain ⟨n, rfl⟩ : ∃ n : Nat, N = (n : Int) := ⟨N.toNat, by omega⟩
    exact main2 n a1 a2 l1 c1 c2 fs ts w (by omega) b1 h1 h2
  · exact early2 N a1 a2 l1 c1 l2 c2 w h1.max h2.max hN hin
end Go.Proofs.Qxb6604786a.Gr
