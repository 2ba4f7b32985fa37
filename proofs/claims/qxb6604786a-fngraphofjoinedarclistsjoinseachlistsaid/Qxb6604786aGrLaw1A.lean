import Derived.Test.Qxb6604786aGrJoin
namespace Go.Proofs.Qxb6604786a.Gr
open Go.RowKit

set_option maxRecDepth 100000 in
set_option maxHeartbeats 2000000 in
/-- the inputs that the law's guards let by -/
theorem early1 (N : Int) (a1 a2 a3 a4 : Option Addr) (l1 c1 l2 c2 l3 c3 l4 c4 : Nat) (w : World) (m1 : l1 ≤ maxLen) (m2 : l2 ≤ maxLen) (m3 : l3 ≤ maxLen) (m4 : l4 ≤ maxLen) (hN : (Lit.int .i64 N).wf = true)
    (hout : ¬ (l1 ≤ 65536 ∧ l2 ≤ 65536 ∧ l3 ≤ 65536 ∧ l4 ≤ 65536 ∧ 0 ≤ N ∧ N ≤ 65536 ∧ l1 = l2 ∧ l3 = l4)) :
    Calls Try.prog 4 #[.int .i64 N, .slice a1 l1 c1, .slice a2 l2 c2, .slice a3 l3 c3, .slice a4 l4 c4] w fun e w' => e = .returned (.bool true) ∧ Below w.heap.size w w' := by
  have bN := bounds_i64 hN
  have BY := bytes12 N a1 a2 a3 a4 l1 c1 l2 c2 l3 c3 l4 c4 w m1 m2 m3 m4
  unfold maxLen at m1 m2 m3 m4
  go_enter Try.func4, Try.ntmps4
  go_wp2_with fail
  refine BY.mono ?_
  rintro e w ⟨r, rfl, rfl⟩
  cases r with
  | false =>
    go_wp2_with fail
    go_ret
    exact ⟨rfl, Below.refl _ _⟩
  | true =>
    by_cases b1 : 65536 < l1
    · clear hout
      go_wp2_with fail
      go_ret
      exact ⟨rfl, Below.refl _ _⟩
    by_cases b2 : 65536 < l2
    · clear hout
      go_wp2_with fail
      go_ret
      exact ⟨rfl, Below.refl _ _⟩
    by_cases b3 : 65536 < l3
    · clear hout
      go_wp2_with fail
      go_ret
      exact ⟨rfl, Below.refl _ _⟩
    by_cases b4 : 65536 < l4
    · clear hout
      go_wp2_with fail
      go_ret
      exact ⟨rfl, Below.refl _ _⟩
    by_cases n0 : N < 0
    · clear hout
      go_wp2_with fail
      go_ret
      exact ⟨rfl, Below.refl _ _⟩
    by_cases n1 : 65536 < N
    · clear hout
      go_wp2_with fail
      go_ret
      exact ⟨rfl, Below.refl _ _⟩
    by_cases e1 : ¬ l1 = l2
    · clear hout
      go_wp2_with fail
      go_ret
      exact ⟨rfl, Below.refl _ _⟩
    have e2 : ¬ l3 = l4 := fun h => hout ⟨by omega, by omega, by omega, by omega, by omega, by omega, by omega, h⟩
    clear hout
    go_wp2_with fail
    go_ret
    exact ⟨rfl, Below.refl _ _⟩
end Go.Proofs.Qxb6604786a.Gr
