import Derived.Test.Qxb6604786aGrZZ
namespace Go.Proofs.Qxb6604786a.Gr
open Go.RowKit

/-! ### plain facts at a state, in natural numbers -/
theorem Spec.nat {ts fs : List Int} {n : Nat} {S G : List Int} (h : Spec ts fs n S G) (u : Nat) (hu : u ≤ n) : ∃ x : Nat, S.getD u 0 = (x : Int) ∧ x ≤ ts.length ∧ x = cnt ts (u : Int) :=
  ⟨_, h.sat u hu, cnt_le _ _, rfl⟩

theorem join1' {a b fa fb : List Int} {n : Nat} {S G S1 G1 : List Int} (h : Spec (a ++ b) (fa ++ fb) n S G) (h1 : Spec a fa n S1 G1) (hfa : fa.length = a.length) (u : Nat) (hu : u < n) (x x1 k : Nat) (hx : S.getD u 0 = (x : Int)) (hx1 : S1.getD u 0 = (x1 : Int)) (hk : k < eqc a (u : Int)) :
    x + k < (a ++ b).length ∧ x1 + k < a.length ∧ G.getD (x + k) 0 = G1.getD (x1 + k) 0 := by
  obtain ⟨q, q1, e, e1, l, l1, g⟩ := join1 h h1 hfa u hu k hk
  rw [hx] at e
  rw [hx1] at e1
  obtain rfl : q = x + k := by omega
  obtain rfl : q1 = x1 + k := by omega
  exact ⟨l, l1, g⟩

theorem join2' {a b fa fb : List Int} {n : Nat} {S G S2 G2 : List Int} (h : Spec (a ++ b) (fa ++ fb) n S G) (h2 : Spec b fb n S2 G2) (hfa : fa.length = a.length) (u : Nat) (hu : u < n) (x x2 ea k : Nat) (hx : S.getD u 0 = (x : Int)) (hx2 : S2.getD u 0 = (x2 : Int)) (hea : eqc a (u : Int) = ea) (hk : k < eqc b (u : Int)) :
    x + ea + k < (a ++ b).length ∧ x2 + k < b.length ∧ G.getD (x + ea + k) 0 = G2.getD (x2 + k) 0 := by
  obtain ⟨q, q2, e, e1, l, l1, g⟩ := join2 h h2 hfa u hu k hk
  rw [hx, hea] at e
  rw [hx2] at e1
  obtain rfl : q = x + ea + k := by omega
  obtain rfl : q2 = x2 + k := by omega
  exact ⟨l, l1, g⟩

set_option maxHeartbeats 400000 in
theorem segs (n m gs : Nat) (M1 M2 : Int) (fs ts S G : List Int) (w : World) (hM1 : M1 = (m : Int)) (hM2 : M2 = (m : Int)) (hS : Own w gs 3 (S.map (Value.int .i64))) (hsp : Spec ts fs n S G) (hts : Among ts n) (hm : ts.length = m) (hn : n ≤ 65536) :
    Calls Try.prog 13 #[.int .i64 n, .slice (some ⟨gs, 0, none⟩) (n + 1) (n + 1), .int .i64 M1, .int .i64 M2] w fun e w' => e = .returned (.bool true) ∧ ∃ n, w' = w.drewN n := by
  subst hM1 hM2
  have c0 : w.cell? ⟨gs, 0, none⟩ = some (.int .i64 0) := by
    rw [hS.int 0 (by rw [hsp.slen]; omega), hsp.sat 0 (by omega)]
    have : ((0 : Nat) : Int) = 0 := rfl
    rw [this, cnt_zero hts]; rfl
  have cn : w.cell? ⟨gs, n, none⟩ = some (.int .i64 (m : Int)) := by
    rw [hS.int n (by rw [hsp.slen]; omega), hsp.sat n (by omega), cnt_all hts, hm]
  go_enter Try.func13, Try.ntmps13
  go_wp2
  go_loopw [9] (fun i wr => ∃ u d : Nat, u ≤ n ∧ i = .int .i64 u ∧ wr = w.drewN d) (fun i _ => n - (intOf i).toNat)
  case atStart => exact ⟨0, 0, Nat.zero_le _, rfl, rfl⟩
  case round =>
    clear c0 cn
    obtain ⟨u, d, hu, rfl, rfl⟩ := hrel
    by_cases hlt : u < n
    · obtain ⟨x, hx, hxl, hxc⟩ := hsp.nat u (by omega)
      obtain ⟨y, hy, hyl, hyc⟩ := hsp.nat (u + 1) (by omega)
      have hxy : x ≤ y := by rw [hxc, hyc]; exact cnt_mono _ _ _ (by omega)
      have c1 : w.cell? ⟨gs, u, none⟩ = some (.int .i64 (x : Int)) := by rw [hS.int u (by rw [hsp.slen]; omega), hx]
      have c2 : w.cell? ⟨gs, u + 1, none⟩ = some (.int .i64 (y : Int)) := by rw [hS.int (u + 1) (by rw [hsp.slen]; omega), hy]
      clear hx hy hxc hyc
      go_wp2
      go_quiet (fail)
      go_wp2
      go_roundw
      case rel => exact ⟨u + 1, _, by omega, by go_num, rfl⟩
      case measure => simp [intOf]; omega
    · go_wp2
      go_ret
      exact ⟨rfl, _, rfl⟩
end Go.Proofs.Qxb6604786a.Gr
