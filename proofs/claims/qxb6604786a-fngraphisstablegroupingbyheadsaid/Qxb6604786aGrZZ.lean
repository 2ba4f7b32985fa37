import Derived.Test.Qxb6604786aGrGraph
namespace Go.Proofs.Qxb6604786a.Gr
open Go.RowKit

/-- the first i arcs are laid -/
def Laid (fs ts : List Int) (m i : Nat) (A : List Value) : Prop := A.length = m * 2 ∧ ∀ j, j < i → A[j * 2]? = some (.int .i32 (fs.getD j 0)) ∧ A[j * 2 + 1]? = some (.int .i32 (ts.getD j 0))

theorem Laid.step {fs ts : List Int} {m i : Nat} {A : List Value} (h : Laid fs ts m i A) (hi : i < m) : Laid fs ts m (i + 1) ((A.set (i * 2) (.int .i32 (fs.getD i 0))).set (i * 2 + 1) (.int .i32 (ts.getD i 0))) := by
  have hl := h.1
  refine ⟨by simp [hl], fun j hj => ?_⟩
  by_cases e : j = i
  · subst e
    constructor
    · rw [List.getElem?_set_ne (by omega), List.getElem?_set_self (by omega)]
    · rw [List.getElem?_set_self (by simp; omega)]
  · have := h.2 j (by omega)
    constructor
    · rw [List.getElem?_set_ne (by omega), List.getElem?_set_ne (by omega)]; exact this.1
    · rw [List.getElem?_set_ne (by omega), List.getElem?_set_ne (by omega)]; exact this.2

theorem Laid.arcs {fs ts : List Int} {m : Nat} {A : List Value} {w : World} {ga : Nat} {e : TypeId} (h : Laid fs ts m m A) (ho : Own w ga e A) (hm : ts.length = m) : Arcs w ga fs ts := fun i hi => by
  have hl := h.1
  have := h.2 i (by omega)
  exact ⟨by rw [ho.cell _ (by omega)]; exact this.1, by rw [ho.cell _ (by omega)]; exact this.2⟩

set_option maxHeartbeats 1000000 in
theorem zzgraph (a0 a1 : Option Addr) (m c0 c1 n : Nat) (fs ts : List Int) (w : World) (h0 : Row .i32 w a0 fs) (h1 : Row .i32 w a1 ts) (hfl : fs.length = m) (htl : ts.length = m) (hts : Among ts n) (hm : m ≤ 262144) (hn : n ≤ 65536) :
    Calls Try.prog 10 #[.slice a0 m c0, .slice a1 m c1, .int .i64 n] w fun e w' => ∃ gs gf S G, e = .returned (.tuple #[.slice (some ⟨gs, 0, none⟩) (n + 1) (n + 1), .slice (some ⟨gf, 0, none⟩) m m]) ∧
      Own w' gs 3 (S.map (Value.int .i64)) ∧ Own w' gf 21 (G.map (Value.int .i32)) ∧ Spec ts fs n S G ∧ Below w.heap.size w w' := by
  obtain ⟨i0, hi, hz0, hz1, hz2⟩ := info_parts Try.info44
  go_enter Try.func10, Try.ntmps10
  go_wp2_with (refine wpList_make_full _ rfl (.tmp 13) (.tmp 13) 42 rfl w.heap.size 44 i0 (.agg #[.int .i32 0, .int .i32 0]) 2 Try.underlying42 hi hz0 hz1 _ _ _ _ m rfl rfl rfl rfl ?_ ?_ ?_ ?_)
  · rw [hz2]; omega
  · unfold maxLen; omega
  · exact Nat.le_refl _
  · intro w1 hown hg
    have hlen := hown.1
    have har := (Own.of_made hown).own
    have hbel : Below w.heap.size w w1 := below_grown0 (Below.refl _ w) hg (Nat.le_refl _)
    have hL : Laid fs ts m 0 (madeCells #[Value.int .i32 0, Value.int .i32 0] (m * 2)).toList := ⟨hlen, fun j h => absurd h (by omega)⟩
    clear hown hg hz0 hz1 hz2 hi hlen
    go_wp2
    go_loopw [9] (fun iv wr => ∃ (i : Nat) (A : List Value), i ≤ m ∧ iv = .int .i64 i ∧ Laid fs ts m i A ∧ Own wr w.heap.size 44 A ∧ Below w.heap.size w wr) (fun iv _ => m - (intOf iv).toNat)
    case atStart => exact ⟨0, _, Nat.zero_le _, rfl, hL, har, hbel⟩
    case round =>
      clear har hbel hL
      obtain ⟨i, A, him, rfl, hL, har, hbel⟩ := hrel
      by_cases hlt : i < m
      · obtain ⟨b0, o0, rfl, hb0, hc0⟩ := h0.at (j := i) (by omega)
        obtain ⟨b1, o1, rfl, hb1, hc1⟩ := h1.at (j := i) (by omega)
        obtain ⟨x, c1, X⟩ := hc0.get i (by omega)
        obtain ⟨y, c2, Y⟩ := hc1.get i (by omega)
        have c1' : wr.cell? ⟨b0, o0 + i, none⟩ = some (.int .i32 x) := (hbel.cell (by exact hb0)).trans c1
        have c2' : wr.cell? ⟨b1, o1 + i, none⟩ = some (.int .i32 y) := (hbel.cell (by exact hb1)).trans c2
        have hl := hL.1
        obtain ⟨z0, c3⟩ : ∃ z, wr.cell? ⟨w.heap.size, i * 2, none⟩ = some z := ⟨A[i * 2], by rw [har.cell _ (by omega)]; simp⟩
        obtain ⟨z1, c4⟩ : ∃ z, wr.cell? ⟨w.heap.size, i * 2 + 1, none⟩ = some z := ⟨A[i * 2 + 1], by rw [har.cell _ (by omega)]; simp⟩
        have c5 := har.frozen (i * 2)
        have c6 := har.frozen (i * 2 + 1)
        clear c1 c2 hl
        go_wp2
        go_region
        go_wp2
        go_roundw
        case rel =>
          refine ⟨i + 1, _, by omega, by go_num, hL.step hlt, ?_, ?_⟩
          · rw [X.out, Y.out]
            exact ((har.set (i * 2) (.int .i32 x)).set (i * 2 + 1) (.int .i32 y)).drew
          · exact ((hbel.setCell (p := ⟨w.heap.size, i * 2, none⟩) (Nat.le_refl _) (.int .i32 x)).setCell (p := ⟨w.heap.size, i * 2 + 1, none⟩) (Nat.le_refl _) (.int .i32 y)).drew
        case measure => simp [intOf]; omega
      · obtain rfl : m = i := by omega
        have harc : Arcs wr w.heap.size fs ts := hL.arcs har htl
        have hsz : w.heap.size < wr.heap.size := har.lt
        clear hL har
        go_wp2_with fail
        have hb2 : Below wr.heap.size wr (wr.alloc (.cells #[.slice (some ⟨w.heap.size, 0, none⟩) m m, .slice none 0 0, .slice none 0 0, .slice none 0 0] 49)) := (Below.refl _ _).alloc (Nat.le_refl _) _
        have harc2 : Arcs (wr.alloc (.cells #[.slice (some ⟨w.heap.size, 0, none⟩) m m, .slice none 0 0, .slice none 0 0, .slice none 0 0] 49)) w.heap.size fs ts := fun i hi =>
          ⟨(hb2.cell (by exact hsz)).trans (harc i hi).1, (hb2.cell (by exact hsz)).trans (harc i hi).2⟩
        refine (graph_any wr.heap.size w.heap.size m n fs ts _ (by simp) (by simp) (by simp; omega) harc2 hfl htl hts hm hn).mono ?_
        rintro e w3 ⟨gs, gf, S, G, rfl, g1, g2, hS, hG, hsp, q⟩
        have hbel3 : Below w.heap.size w w3 := (hbel.trans (hb2.mono (by omega))).trans (q.mono (by simp; omega))
        have s1 : gs < w3.heap.size := hS.lt
        have s2 : gf < w3.heap.size := hG.lt
        clear hb2 harc2 q g1 g2 harc
        go_wp2
        go_quiet (fail)
        go_wp2
        go_ret2
        exact ⟨gs, gf, S, G, rfl, (hS.alloc _).drewN _, (hG.alloc _).drewN _, hsp, below_drewN (hbel3.alloc (by have := hbel3.size; omega) _) _⟩
end Go.Proofs.Qxb6604786a.Gr
