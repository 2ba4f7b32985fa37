import Derived.Test.Qxb6604786aGrWalks
namespace Go.Proofs.Qxb6604786a.Gr
open Go.RowKit

/-- the arcs in memory: two cells each -/
def Arcs (w : World) (ga : Nat) (fs ts : List Int) : Prop := ∀ i, i < ts.length → w.cell? ⟨ga, i * 2, none⟩ = some (.int .i32 (fs.getD i 0)) ∧ w.cell? ⟨ga, i * 2 + 1, none⟩ = some (.int .i32 (ts.getD i 0))

theorem row_take {k : IntKind} {w : World} {a : Option Addr} {xs : List Int} (h : Row k w a xs) (j : Nat) : Row k w a (xs.take j) := by
  rcases h with rfl | ⟨b, off, ha, hb, hc⟩
  · left; simp
  · refine .inr ⟨b, off, ha, hb, fun i hi => ?_⟩
    rw [List.length_take] at hi
    rw [hc i (by omega)]
    have : i < j := by omega
    simp [this]

set_option maxHeartbeats 1000000 in
theorem graph_any (bx ga m n : Nat) (fs ts : List Int) (w : World) (hbx : w.cell? ⟨bx, 0, none⟩ = some (.slice (some ⟨ga, 0, none⟩) m m)) (hbl : bx < w.heap.size) (hgl : ga < w.heap.size) (harc : Arcs w ga fs ts)
    (hfl : fs.length = m) (htl : ts.length = m) (hts : Among ts n) (hm : m ≤ 262144) (hn : n ≤ 65536) :
    Calls Try.prog 25 #[.pointer (some ⟨bx, 0, none⟩), .int .i64 n] w fun e w' => ∃ gs gf S G, e = .returned (.agg #[.slice (some ⟨gs, 0, none⟩) (n + 1) (n + 1), .slice (some ⟨gf, 0, none⟩) m m]) ∧
      w.heap.size ≤ gs ∧ w.heap.size ≤ gf ∧ Own w' gs 3 (S.map (Value.int .i64)) ∧ Own w' gf 21 (G.map (Value.int .i32)) ∧ Spec ts fs n S G ∧ Below w.heap.size w w' := by
  obtain ⟨i0, hi, hz0, hz1, hz2⟩ := info_parts Try.info3
  go_enter Try.func25, Try.ntmps25
  go_wp2_with (refine wpList_make_full _ rfl (.tmp 14) (.tmp 14) 25 rfl w.heap.size 3 i0 (.int .i64 0) 1 Try.underlying25 hi hz0 hz1 _ _ _ _ (n + 1) rfl rfl (by omega) (by omega) ?_ ?_ ?_ ?_)
  · rw [hz2]; omega
  · unfold maxLen; omega
  · simp
  · intro w1 hown hg
    rw [made_zeros] at hown
    have hst := (Own.of_made hown).own
    have hres : Own w1 w.heap.size 51 [.slice none 0 0, .slice none 0 0] := Own.grown (w := w.alloc (.cells #[.slice none 0 0, .slice none 0 0] 51)) ⟨_, heap_alloc_new w _, rfl⟩ hg (by simp)
    have hbel : Below w.heap.size w w1 := below_grown0 ((Below.refl _ w).alloc (Nat.le_refl _) _) hg (by simp)
    clear hown hg hz0 hz1 hz2 hi
    have hbx1 : w1.cell? ⟨bx, 0, none⟩ = some (.slice (some ⟨ga, 0, none⟩) m m) := (hbel.cell (by exact hbl)).trans hbx
    go_wp2
    clear hbx1
    go_loopw [21] (fun iv wr => ∃ (i : Nat) (S : List Int), i ≤ m ∧ iv = .int .i64 i ∧ L1 ts n i S ∧ Own wr (w.heap.size + 1) 3 (S.map (Value.int .i64)) ∧ Own wr w.heap.size 51 [.slice none 0 0, .slice none 0 0] ∧ Below w.heap.size w wr) (fun iv _ => m - (intOf iv).toNat)
    case atStart => exact ⟨0, _, Nat.zero_le _, rfl, L1.start ts n, hst, hres, hbel⟩
    case round =>
      clear hst hres hbel
      obtain ⟨i, S, him, rfl, hL, hst, hres, hbel⟩ := hrel
      by_cases hlt : i < m
      · obtain ⟨c1, c2⟩ := harc i (by omega)
        obtain ⟨t, ht⟩ : ∃ t : Nat, ts.getD i 0 = (t : Int) := ⟨(ts.getD i 0).toNat, by have := hts.at (j := i) (by omega); omega⟩
        have htn : t < n := by have := hts.at (j := i) (by omega); omega
        obtain ⟨f, hf⟩ : ∃ f, fs.getD i 0 = f := ⟨_, rfl⟩
        rw [ht] at c2
        rw [hf] at c1
        have c1' : wr.cell? ⟨ga, i * 2, none⟩ = some (.int .i32 f) := (hbel.cell (by exact hgl)).trans c1
        have c2' : wr.cell? ⟨ga, i * 2 + 1, none⟩ = some (.int .i32 (t : Int)) := (hbel.cell (by exact hgl)).trans c2
        have HT : Hid (ts.getD i 0 = (t : Int)) := ht
        have hbd := hL.bound (t + 1) (by omega)
        obtain ⟨v, hv⟩ : ∃ v, S.getD (t + 1) 0 = v := ⟨_, rfl⟩
        rw [hv, htl] at hbd
        have c3 : wr.cell? ⟨w.heap.size + 1, t + 1, none⟩ = some (.int .i64 v) := by rw [← hv]; exact hst.int (t + 1) (by rw [hL.1]; omega)
        have c4 := hst.frozen (t + 1)
        have HV : Hid (S.getD (t + 1) 0 = v) := hv
        have hsz : w.heap.size + 1 < wr.heap.size := hst.lt
        clear ht hf hv c1 c2
        go_wp2
        go_roundw
        case rel =>
          refine ⟨i + 1, S.set (t + 1) (v + 1), by omega, by go_num, ?_, (hst.setInt (t + 1) (v + 1)).alloc _, (hres.other _ _ (by simp)).alloc _, (hbel.setCell (by simp) _).alloc (by simp; omega) _⟩
          have := hL.step (by omega) t HT.out htn
          rw [HV.out] at this
          exact this
        case measure => simp [intOf]; omega
      · obtain rfl : m = i := by omega
        have hL2 : L2 ts n 0 S := L2.start (by rw [htl]; exact hL) hts
        clear hL
        go_wp2
        go_loopw [35] (fun uv wr => ∃ (u : Nat) (S : List Int), u ≤ n ∧ uv = .int .i64 u ∧ L2 ts n u S ∧ Own wr (w.heap.size + 1) 3 (S.map (Value.int .i64)) ∧ Own wr w.heap.size 51 [.slice none 0 0, .slice none 0 0] ∧ Below w.heap.size w wr) (fun uv _ => n - (intOf uv).toNat)
        case atStart => exact ⟨0, S, Nat.zero_le _, rfl, hL2, hst, hres, hbel⟩
        case round =>
          clear hst hres hbel hL2 S
          obtain ⟨u, S, hun, rfl, hL, hst, hres, hbel⟩ := hrel
          by_cases hlt : u < n
          · have b1 := hL.bound u (by omega)
            have b2 := hL.bound (u + 1) (by omega)
            obtain ⟨x, hx⟩ : ∃ x, S.getD u 0 = x := ⟨_, rfl⟩
            obtain ⟨y, hy⟩ : ∃ y, S.getD (u + 1) 0 = y := ⟨_, rfl⟩
            rw [hx, htl] at b1
            rw [hy, htl] at b2
            have c1 : wr.cell? ⟨w.heap.size + 1, u, none⟩ = some (.int .i64 x) := by rw [← hx]; exact hst.int u (by rw [hL.1]; omega)
            have c2 : wr.cell? ⟨w.heap.size + 1, u + 1, none⟩ = some (.int .i64 y) := by rw [← hy]; exact hst.int (u + 1) (by rw [hL.1]; omega)
            have c4 := hst.frozen (u + 1)
            have HX : Hid (S.getD u 0 = x) := hx
            have HY : Hid (S.getD (u + 1) 0 = y) := hy
            clear hx hy
            go_wp2
            go_region
            go_wp2
            go_roundw
            case rel =>
              refine ⟨u + 1, S.set (u + 1) (y + x), by omega, by go_num, ?_, (hst.setInt (u + 1) (y + x)).drew, (hres.other _ _ (by simp)).drew, (hbel.setCell (by simp) _).drew⟩
              have := hL.step hlt
              rw [HX.out, HY.out] at this
              exact this
            case measure => simp [intOf]; omega
          · obtain rfl : n = u := by omega
            have hbx2 : wr.cell? ⟨bx, 0, none⟩ = some (.slice (some ⟨ga, 0, none⟩) m m) := (hbel.cell (by exact hbl)).trans hbx
            obtain ⟨i1, hi, hz0, hz1, hz2⟩ := info_parts Try.info21
            have hsz : w.heap.size + 1 < wr.heap.size := hst.lt
            go_wp2_with (refine wpList_make_full _ rfl (.tmp 54) (.tmp 54) 22 rfl w.heap.size 21 i1 (.int .i32 0) 1 Try.underlying22 hi hz0 hz1 _ _ _ _ m rfl rfl rfl rfl ?_ ?_ ?_ ?_)
            · rw [hz2]; omega
            · unfold maxLen; omega
            · omega
            · intro w2 hown hg
              rw [made_zeros] at hown
              have hfr := (Own.of_made hown).own
              have hst2 := hst.grown hg (by simp)
              have hres2 := hres.grown hg (by simp)
              have hbel2 : Below w.heap.size w w2 := below_grown0 hbel hg (by omega)
              obtain ⟨gf, hgf⟩ : ∃ gf, wr.heap.size = gf := ⟨_, rfl⟩
              rw [hgf] at hfr ⊢
              have hgf2 : w.heap.size + 1 < gf := by omega
              clear hown hg hz0 hz1 hz2 hi hst hres hbel hbx2 hsz hgf
              go_wp2_with fail
              have htk : Row .i64 w2 (some ⟨w.heap.size + 1, 0, none⟩) (S.take n) := row_take hst2.row n
              refine (sclone ⟨w.heap.size + 1, 0, none⟩ n (n + 1) (S.take n) w2 (by rw [List.length_take, hL.1]; omega) (by omega) htk).mono ?_
              rintro e w3 ⟨gn, cn, rfl, hgn, hnx, q⟩
              have hgl2 : gf < w2.heap.size := hfr.lt
              have hfr := hfr.below q hfr.lt
              have hst := hst2.below q hst2.lt
              have hres := hres2.below q hres2.lt
              have hbel : Below w.heap.size w w3 := hbel2.trans (q.mono hbel2.size)
              have hgn2 : gf < gn := by omega
              have hL3 : L3 ts fs n 0 (S.take n) (List.replicate m 0) := by rw [← htl]; exact L3.start hL
              have hbx3 : w3.cell? ⟨bx, 0, none⟩ = some (.slice (some ⟨ga, 0, none⟩) m m) := (hbel.cell (by exact hbl)).trans hbx
              clear q htk hst2 hres2 hbel2 hgn hgl2
              go_wp2
              clear hbx3
              go_loopw [65] (fun iv wr => ∃ (i : Nat) (Nx G : List Int), i ≤ m ∧ iv = .int .i64 i ∧ L3 ts fs n i Nx G ∧ Own wr gn 3 (Nx.map (Value.int .i64)) ∧ Own wr gf 21 (G.map (Value.int .i32)) ∧ Own wr (w.heap.size + 1) 3 (S.map (Value.int .i64)) ∧ Own wr w.heap.size 51 [.slice none 0 0, .slice none 0 0] ∧ Below w.heap.size w wr) (fun iv _ => m - (intOf iv).toNat)
              case atStart => exact ⟨0, _, _, Nat.zero_le _, rfl, hL3, hnx, hfr, hst, hres, hbel⟩
              case round =>
                clear hnx hfr hst hres hbel hL3
                obtain ⟨i, Nx, G, him, rfl, hL3, hnx, hfr, hst, hres, hbel⟩ := hrel
                by_cases hlt : i < m
                · obtain ⟨c1, c2⟩ := harc i (by omega)
                  obtain ⟨t, ht⟩ : ∃ t : Nat, ts.getD i 0 = (t : Int) := ⟨(ts.getD i 0).toNat, by have := hts.at (j := i) (by omega); omega⟩
                  have htn : t < n := by have := hts.at (j := i) (by omega); omega
                  obtain ⟨f, hf⟩ : ∃ f, fs.getD i 0 = f := ⟨_, rfl⟩
                  rw [ht] at c2
                  rw [hf] at c1
                  have c1' : wr.cell? ⟨ga, i * 2, none⟩ = some (.int .i32 f) := (hbel.cell (by exact hgl)).trans c1
                  have c2' : wr.cell? ⟨ga, i * 2 + 1, none⟩ = some (.int .i32 (t : Int)) := (hbel.cell (by exact hgl)).trans c2
                  have hat := hL3.at t ht htn
                  have hpl := pos_lt ts i (by omega)
                  obtain ⟨p, hp⟩ : ∃ p, pos ts i = p := ⟨_, rfl⟩
                  rw [hp] at hat hpl
                  rw [htl] at hpl
                  have c3 : wr.cell? ⟨gn, t, none⟩ = some (.int .i64 (p : Int)) := by rw [← hat]; exact hnx.int t (by rw [hL3.1]; omega)
                  have c4 := hnx.frozen t
                  obtain ⟨z, c5⟩ : ∃ z, wr.cell? ⟨gf, p, none⟩ = some (.int .i32 z) := ⟨_, hfr.int p (by rw [hL3.2.2.1]; omega)⟩
                  have c6 := hfr.frozen p
                  have s1 : gn < wr.heap.size := hnx.lt
                  have s2 : gf < wr.heap.size := hfr.lt
                  have HT : Hid (ts.getD i 0 = (t : Int)) := ht
                  have HP : Hid (pos ts i = p) := hp
                  have HF : Hid (fs.getD i 0 = f) := hf
                  clear ht hf hp hat c1 c2
                  go_wp2
                  go_region
                  go_wp2
                  go_roundw
                  case rel =>
                    refine ⟨i + 1, Nx.set t ((p : Int) + 1), G.set p f, by omega, by go_num, ?_, ?_, ?_, ?_, ?_, ?_⟩
                    · have := hL3.step (by omega) t HT.out htn
                      rw [HP.out, HF.out] at this
                      exact this
                    · exact (((hnx.other ⟨gf, p, none⟩ (.int .i32 f) (by simp; omega)).setInt t ((p : Int) + 1)).alloc _).drew
                    · exact (((hfr.setInt p f).other ⟨gn, t, none⟩ (.int .i64 ((p : Int) + 1)) (by simp; omega)).alloc _).drew
                    · exact (((hst.other ⟨gf, p, none⟩ (.int .i32 f) (by simp; omega)).other ⟨gn, t, none⟩ (.int .i64 ((p : Int) + 1)) (by simp; omega)).alloc _).drew
                    · exact (((hres.other ⟨gf, p, none⟩ (.int .i32 f) (by simp; omega)).other ⟨gn, t, none⟩ (.int .i64 ((p : Int) + 1)) (by simp; omega)).alloc _).drew
                    · exact (((hbel.setCell (p := ⟨gf, p, none⟩) (by simp; omega) (.int .i32 f)).setCell (p := ⟨gn, t, none⟩) (by simp; omega) (.int .i64 ((p : Int) + 1))).alloc (by simp; omega) _).drew
                  case measure => simp [intOf]; omega
                · obtain rfl : m = i := by omega
                  have d0 : wr.cell? ⟨w.heap.size, 0, none⟩ = some (.slice none 0 0) := hres.cell 0 (by simp)
                  have d1 : wr.cell? ⟨w.heap.size, 1, none⟩ = some (.slice none 0 0) := hres.cell 1 (by simp)
                  have e0 := hres.frozen 0
                  have e1 := hres.frozen 1
                  go_wp2
                  have hW := (hres.set 0 (.slice (some ⟨w.heap.size + 1, 0, none⟩) (n + 1) (n + 1))).set 1 (.slice (some ⟨gf, 0, none⟩) m m)
                  have q0 := hW.cell 0 (by simp)
                  have q1 := hW.cell 1 (by simp)
                  simp only [List.set_cons_zero, List.set_cons_succ, List.getElem?_cons_zero, List.getElem?_cons_succ] at q0 q1
                  refine bodyPost_ret (v := .agg #[.slice (some ⟨w.heap.size + 1, 0, none⟩) (n + 1) (n + 1), .slice (some ⟨gf, 0, none⟩) m m]) ?_ rfl ⟨w.heap.size + 1, gf, S, G, rfl, by omega, by omega, ?_, ?_, Spec.of hL (by rw [htl]; exact hL3), ?_⟩
                  · simp [results, Try.results25, go_sem, q0, q1]
                  · exact (hst.other _ _ (by simp)).other _ _ (by simp)
                  · exact (hfr.other _ _ (by simp; omega)).other _ _ (by simp; omega)
                  · exact (hbel.setCell (by simp) _).setCell (by simp) _
end Go.Proofs.Qxb6604786a.Gr
