import Derived.Test.Qxb6604786aGrLaw1A
namespace Go.Proofs.Qxb6604786a.Gr
open Go.RowKit

/-- the kit's law on copy, with what it leaves of every other block -/
theorem copy_law {P : Program} {w : World} {ops : Array Oper} {rest : List Oper} {o : Oper} {a : Act} {Q : Exit → Act → World → Prop} (hgd : o.guard = none) (d s : Operand) (dT sT : TypeId)
    (ho : o.op = .call { callee := .builtin .copy, args := #[d, s], argTypes := #[dT, sT] }) (elem : TypeId) (hu : P.underlying dT = some (.slice elem)) (hsz : (P.info? elem).map (·.size) = some 1)
    (dp sp : Option Addr) (dLen dCap sLen sCap : Nat) (hd : a.eval d = .slice dp dLen dCap) (hs : a.eval s = .slice sp sLen sCap)
    (g off : Nat) (cur : List Value) (t : TypeId) (hg : w.heap[g]? = some (.cells cur.toArray t (0, 0))) (cs : List Value) (hn : cs.length = Nat.min sLen dLen)
    (hpos : 0 < cs.length → dp = some ⟨g, off, none⟩ ∧ ∃ ad, sp = some ad ∧ ∀ j v, cs[j]? = some v → w.cell? (ad.add j) = some v)
    (hfit : off + cs.length ≤ cur.length) (h1 : ∀ v ∈ cs, v.oneCell' = true)
    (h : ∀ w', Hid (w'.heap[g]? = some (.cells (splice cur off cs).toArray t (0, 0))) → w.grownBy w' (some g) → wpList P ops Q rest (a.put o.dst (goInt cs.length)) w') :
    wpList P ops Q (o :: rest) a w := by
  by_cases h0 : cs.length = 0
  · obtain rfl : cs = [] := List.eq_nil_of_length_eq_zero h0
    refine wpList_copy_nothing hgd d s dT sT ho elem hu hsz dp sp dLen dCap sLen sCap hd hs (by simpa using hn.symm) ?_
    exact h w (show _ = _ by simpa [splice] using hg) ⟨rfl, rfl, rfl, Nat.le_refl _, fun _ _ _ => rfl⟩
  · obtain ⟨rfl, ad, rfl, hsrc⟩ := hpos (by omega)
    refine wpList_copy_own hgd d s dT sT ho elem hu hsz g off dLen dCap ad sLen sCap hd hs cur.toArray t hg cs hn hsrc (by simpa using hfit) h1 ?_
    exact h _ (show _ = _ by simpa [splice] using setRow_heap w g _ _ t _ hg) ⟨rfl, rfl, rfl, by simp [World.setRow], fun k _ hk => setRow_other w g k _ (fun e => hk (by rw [e]))⟩

theorem splice2 (Z X1 X2 : List Value) (k : Nat) (hk : X1.length = k) (hZ : Z.length = k + X2.length) : splice (splice Z 0 X1) k X2 = X1 ++ X2 := by
  subst hk
  unfold splice
  simp only [List.take_zero, List.nil_append, Nat.zero_add]
  rw [List.take_append_of_le_length (Nat.le_refl _), List.take_length, List.drop_append]
  have : (X1.drop (X1.length + X2.length)) = [] := List.drop_eq_nil_of_le (by omega)
  rw [this, List.nil_append, List.drop_drop]
  have e : (Z.drop (X1.length + (X1.length + X2.length - X1.length))) = [] := List.drop_eq_nil_of_le (by omega)
  rw [e, List.append_nil]

theorem opt_src {k : IntKind} {w w1 : World} {a : Option Addr} {xs : List Int} (hr : Row k w a xs) (hb : Below w.heap.size w w1) (hp : 0 < xs.length) : ∃ ad, a = some ad ∧ ∀ (j : Nat) (v : Value), (xs.map (Value.int k))[j]? = some v → w1.cell? (ad.add j) = some v := by
  obtain ⟨b, off, rfl, hlt, hc⟩ := hr.at hp
  refine ⟨_, rfl, fun j v hj => ?_⟩
  rw [List.getElem?_map] at hj
  obtain ⟨a, ha, rfl⟩ := Option.map_eq_some_iff.1 hj
  exact row_src hr hb j a ha

/-- what the two inner loops read at k -/
def Same (w : World) (gf gf1 gf2 m l1 l3 x x1 x2 ea eb : Nat) : Prop :=
  (∀ k, k < ea → x + k < m ∧ x1 + k < l1 ∧ ∃ v : Int, w.cell? ⟨gf, x + k, none⟩ = some (.int .i32 v) ∧ w.cell? ⟨gf1, x1 + k, none⟩ = some (.int .i32 v)) ∧
  (∀ k, k < eb → x + ea + k < m ∧ x2 + k < l3 ∧ ∃ v : Int, w.cell? ⟨gf, x + ea + k, none⟩ = some (.int .i32 v) ∧ w.cell? ⟨gf2, x2 + k, none⟩ = some (.int .i32 v))

theorem facts {w : World} {gs gs1 gs2 gf gf1 gf2 n : Nat} {T1 T2 F1 F2 S S1 S2 G G1 G2 : List Int} (os : Own w gs 3 (S.map (Value.int .i64))) (os1 : Own w gs1 3 (S1.map (Value.int .i64))) (os2 : Own w gs2 3 (S2.map (Value.int .i64)))
    (og : Own w gf 21 (G.map (Value.int .i32))) (og1 : Own w gf1 21 (G1.map (Value.int .i32))) (og2 : Own w gf2 21 (G2.map (Value.int .i32)))
    (sp : Spec (T1 ++ T2) (F1 ++ F2) n S G) (sp1 : Spec T1 F1 n S1 G1) (sp2 : Spec T2 F2 n S2 G2) (hf : F1.length = T1.length) (u : Nat) (hu : u < n) :
    ∃ x x' x1 x1' x2 x2' ea eb : Nat, w.cell? ⟨gs, u, none⟩ = some (.int .i64 (x : Int)) ∧ w.cell? ⟨gs, u + 1, none⟩ = some (.int .i64 (x' : Int)) ∧ w.cell? ⟨gs1, u, none⟩ = some (.int .i64 (x1 : Int)) ∧ w.cell? ⟨gs1, u + 1, none⟩ = some (.int .i64 (x1' : Int)) ∧
      w.cell? ⟨gs2, u, none⟩ = some (.int .i64 (x2 : Int)) ∧ w.cell? ⟨gs2, u + 1, none⟩ = some (.int .i64 (x2' : Int)) ∧ x = x1 + x2 ∧ x1' = x1 + ea ∧ x2' = x2 + eb ∧ (x' = x + ea + eb ∧ x' ≤ T1.length + T2.length) ∧
      Same w gf gf1 gf2 (T1.length + T2.length) T1.length T2.length x x1 x2 ea eb := by
  obtain ⟨x, hx, _, ex⟩ := sp.nat u (by omega)
  obtain ⟨x', hx', hxl, ex'⟩ := sp.nat (u + 1) (by omega)
  obtain ⟨x1, hx1, _, ex1⟩ := sp1.nat u (by omega)
  obtain ⟨x1', hx1', _, ex1'⟩ := sp1.nat (u + 1) (by omega)
  obtain ⟨x2, hx2, _, ex2⟩ := sp2.nat u (by omega)
  obtain ⟨x2', hx2', _, ex2'⟩ := sp2.nat (u + 1) (by omega)
  have e2 : ((u + 1 : Nat) : Int) = (u : Int) + 1 := by omega
  rw [e2, cnt_succ] at ex' ex1' ex2'
  rw [cnt_append] at ex
  rw [cnt_append, eqc_append] at ex'
  rw [List.length_append] at hxl
  refine ⟨x, x', x1, x1', x2, x2', eqc T1 (u : Int), eqc T2 (u : Int), ?_, ?_, ?_, ?_, ?_, ?_, by omega, by omega, by omega, ⟨by omega, hxl⟩, ?_, ?_⟩
  · rw [os.int u (by rw [sp.slen]; omega), hx]
  · rw [os.int (u + 1) (by rw [sp.slen]; omega), hx']
  · rw [os1.int u (by rw [sp1.slen]; omega), hx1]
  · rw [os1.int (u + 1) (by rw [sp1.slen]; omega), hx1']
  · rw [os2.int u (by rw [sp2.slen]; omega), hx2]
  · rw [os2.int (u + 1) (by rw [sp2.slen]; omega), hx2']
  · intro k hk
    obtain ⟨q1, q2, g⟩ := join1' sp sp1 hf u hu x x1 k hx hx1 hk
    rw [List.length_append] at q1
    refine ⟨q1, q2, _, og.int _ (by rw [sp.glen, List.length_append]; exact q1), ?_⟩
    rw [og1.int _ (by rw [sp1.glen]; exact q2), g]
  · intro k hk
    obtain ⟨q1, q2, g⟩ := join2' sp sp2 hf u hu x x2 (eqc T1 (u : Int)) k hx hx2 rfl hk
    rw [List.length_append] at q1
    refine ⟨q1, q2, _, og.int _ (by rw [sp.glen, List.length_append]; exact q1), ?_⟩
    rw [og2.int _ (by rw [sp2.glen]; exact q2), g]

set_option maxRecDepth 100000 in
set_option maxHeartbeats 2000000 in
theorem main1 (n : Nat) (a1 a2 a3 a4 : Option Addr) (l1 c1 c2 l3 c3 c4 : Nat) (F1 T1 F2 T2 : List Int) (w : World) (hn : n ≤ 65536) (b1 : l1 ≤ 65536) (b3 : l3 ≤ 65536) (h1 : Sl w a1 l1 c1 F1) (h2 : Sl w a2 l1 c2 T1) (h3 : Sl w a3 l3 c3 F2) (h4 : Sl w a4 l3 c4 T2) :
    Calls Try.prog 4 #[.int .i64 n, .slice a1 l1 c1, .slice a2 l1 c2, .slice a3 l3 c3, .slice a4 l3 c4] w fun e w' => e = .returned (.bool true) ∧ Below w.heap.size w w' := by
  go_enter Try.func4, Try.ntmps4
  go_wp2_with fail
  refine (bytes12 n a1 a2 a3 a4 l1 c1 l1 c2 l3 c3 l3 c4 w h1.max h2.max h3.max h4.max).mono ?_
  rintro e w ⟨r, rfl, rfl⟩
  cases r with
  | false =>
    go_wp2_with fail
    go_ret
    exact ⟨rfl, Below.refl _ _⟩
  | true =>
    have f1 := h1.size
    have t1 := h2.size
    have f2 := h3.size
    have t2 := h4.size
    go_wp2_with fail
    refine (among n a1 a2 l1 c1 c2 F1 T1 w h1 h2).mono ?_
    rintro e w ⟨r, rfl, s1, rfl⟩
    cases r with
    | false =>
      go_wp2_with fail
      go_ret
      exact ⟨rfl, Below.refl _ _⟩
    | true =>
      replace s1 := (s1 rfl).2
      go_wp2_with fail
      refine (among n a3 a4 l3 c3 c4 F2 T2 w h3 h4).mono ?_
      rintro e w ⟨r, rfl, s2, rfl⟩
      cases r with
      | false =>
        go_wp2_with fail
        go_ret
        exact ⟨rfl, Below.refl _ _⟩
      | true =>
        replace s2 := (s2 rfl).2
        go_wp2_with fail
        refine (clone a1 l1 c1 F1 _ h1 (by omega)).mono ?_
        rintro e w1 ⟨p1, rfl, k1, B1⟩
        have H2 := h2.below B1
        have H3 := h3.below B1
        have H4 := h4.below B1
        clear h1 h2 h3 h4
        go_wp2_with fail
        refine (clone a2 l1 c2 T1 _ H2 (by omega)).mono ?_
        rintro e w2 ⟨p2, rfl, k2, q⟩
        have K1 := k1.below q
        have H3 := H3.below q
        have H4 := H4.below q
        have B2 : Below w.heap.size w w2 := B1.trans (q.mono B1.size)
        clear q B1 H2 k1
        go_wp2_with fail
        refine (clone a3 l3 c3 F2 _ H3 (by omega)).mono ?_
        rintro e w3 ⟨p3, rfl, k3, q⟩
        have K1 := K1.below q
        have K2 := k2.below q
        have H4 := H4.below q
        have B3 : Below w.heap.size w w3 := B2.trans (q.mono B2.size)
        clear q B2 H3 k2
        go_wp2_with fail
        refine (clone a4 l3 c4 T2 _ H4 (by omega)).mono ?_
        rintro e w4 ⟨p4, rfl, k4, q⟩
        have K1 := K1.below q
        have K2 := K2.below q
        have K3 := k3.below q
        have B4 : Below w.heap.size w w4 := B3.trans (q.mono B3.size)
        clear q B3 H4 k3
        obtain ⟨i0, hi, hz0, hz1, hz2⟩ := info_parts Try.info21
        go_wp2_with (at_make; refine wpList_make_full _ rfl (.tmp 113) (.tmp 113) 22 rfl w4.heap.size 21 i0 (.int .i32 0) 1 Try.underlying22 hi hz0 hz1 _ _ _ _ (l1 + l3) rfl rfl (by omega) (by omega) ?_ ?_ ?_ ?_)
        · rw [hz2]; omega
        · unfold maxLen; omega
        · exact Nat.le_refl _
        intro w5 hown hg
        rw [made_zeros] at hown
        have hjf := Own.of_made hown
        have Q5 : Below w4.heap.size w4 w5 := below_grown0 (Below.refl _ _) hg (Nat.le_refl _)
        have s5 : w4.heap.size < w5.heap.size := hjf.own.lt
        clear hown hg
        go_wp2_with (at_make; refine wpList_make_full _ rfl (.tmp 117) (.tmp 117) 22 rfl w4.heap.size 21 i0 (.int .i32 0) 1 Try.underlying22 hi hz0 hz1 _ _ _ _ (l1 + l3) rfl rfl (by omega) (by omega) ?_ ?_ ?_ ?_)
        · rw [hz2]; omega
        · unfold maxLen; omega
        · exact Q5.size
        intro w6 hown hg
        rw [made_zeros] at hown
        have hjt := Own.of_made hown
        have hjf6 : Blk w6 w4.heap.size 21 ((List.replicate (l1 + l3) (0 : Int)).map (Value.int .i32)) := (hg.block w4.heap.size s5 (by simp)).trans hjf
        have Q6 : Below w4.heap.size w4 w6 := below_grown0 Q5 hg Q5.size
        clear hown hg hjf Q5 hz0 hz1 hz2 hi
        obtain ⟨X1, hX1⟩ : ∃ X, F1.map (Value.int .i32) = X := ⟨_, rfl⟩
        obtain ⟨X2, hX2⟩ : ∃ X, F2.map (Value.int .i32) = X := ⟨_, rfl⟩
        obtain ⟨Y1, hY1⟩ : ∃ X, T1.map (Value.int .i32) = X := ⟨_, rfl⟩
        obtain ⟨Y2, hY2⟩ : ∃ X, T2.map (Value.int .i32) = X := ⟨_, rfl⟩
        obtain ⟨Z, hZ⟩ : ∃ X, (List.replicate (l1 + l3) (0 : Int)).map (Value.int .i32) = X := ⟨_, rfl⟩
        have x1 : X1.length = l1 := by rw [← hX1]; simp [f1]
        have x2 : X2.length = l3 := by rw [← hX2]; simp [f2]
        have y1 : Y1.length = l1 := by rw [← hY1]; simp [t1]
        have y2 : Y2.length = l3 := by rw [← hY2]; simp [t2]
        have z1 : Z.length = l1 + l3 := by rw [← hZ]; simp
        rw [hZ] at hjf6 hjt
        have o1 : ∀ v ∈ X1, v.oneCell' = true := by rw [← hX1]; exact ints_oneCell .i32 F1
        have o2 : ∀ v ∈ X2, v.oneCell' = true := by rw [← hX2]; exact ints_oneCell .i32 F2
        have o3 : ∀ v ∈ Y1, v.oneCell' = true := by rw [← hY1]; exact ints_oneCell .i32 T1
        have o4 : ∀ v ∈ Y2, v.oneCell' = true := by rw [← hY2]; exact ints_oneCell .i32 T2
        have HX1 : Hid (F1.map (Value.int .i32) = X1) := hX1
        have HX2 : Hid (F2.map (Value.int .i32) = X2) := hX2
        have HY1 : Hid (T1.map (Value.int .i32) = Y1) := hY1
        have HY2 : Hid (T2.map (Value.int .i32) = Y2) := hY2
        have HL : Hid (X1.length = l1 ∧ X2.length = l3 ∧ Y1.length = l1 ∧ Y2.length = l3 ∧ Z.length = l1 + l3) := ⟨x1, x2, y1, y2, z1⟩
        clear hX1 hX2 hY1 hY2 hZ x1 x2 y1 y2 z1
        obtain ⟨g1, hg1⟩ : ∃ g, w4.heap.size = g := ⟨_, rfl⟩
        obtain ⟨g2, hg2⟩ : ∃ g, w5.heap.size = g := ⟨_, rfl⟩
        have g12 : g1 < g2 := by omega
        have HG1 : Hid (w4.heap.size = g1) := hg1
        rw [hg1] at hjf6 Q6
        rw [hg2] at hjt
        rw [hg1, hg2]
        clear hg1 hg2 s5
        have sz1 : g1 < w6.heap.size := hjf6.own.lt
        have sz2 : g2 < w6.heap.size := hjt.own.lt
        go_wp2_with ((with_reducible show wpList _ _ _ ({ dst := some 121, op := _, type := _, pos := _, after := _, guard := _ } :: _) _ _); go_must (refine copy_law rfl (.tmp 119) (.tmp 120) 22 22 rfl 21 Try.underlying22 size21 _ _ _ _ _ _ rfl rfl g1 0 Z 21 hjf6 X1 ?_ ?_ ?_ o1 ?_))
        · rw [HL.out.1]; exact (Nat.min_eq_left (by omega)).symm
        · intro hp
          have := opt_src K1.row (w1 := w6) (by rw [HG1.out]; exact Q6) (by rw [f1, ← HL.out.1]; exact hp)
          rw [HX1.out] at this
          exact this
        · rw [HL.out.1, HL.out.2.2.2.2]; omega
        intro w7 hc7 hg7
        have hjt7 : Blk w7 g2 21 Z := (hg7.block g2 sz2 (by simp; omega)).trans hjt
        have Q7 : Below g1 w4 w7 := Q6.grown hg7 (by omega) (fun k hk => by have := Option.some.inj hk; omega)
        have sz1 : g1 < w7.heap.size := Nat.lt_of_lt_of_le sz1 hg7.size
        have sz2 : g2 < w7.heap.size := Nat.lt_of_lt_of_le sz2 hg7.size
        clear hg7 hjf6 hjt Q6
        obtain ⟨d1, hd1⟩ : ∃ d : Option Addr, (if l3 = 0 then some (⟨g1, 0, none⟩ : Addr) else some ⟨g1, l1, none⟩) = d := ⟨_, rfl⟩
        have hd1' : (if l1 + l3 = l1 then some (⟨g1, 0, none⟩ : Addr) else some ⟨g1, l1, none⟩) = d1 := by rw [← hd1]; congr 1; simp
        go_wp2_with ((with_reducible show wpList _ _ _ ({ dst := some 126, op := _, type := _, pos := _, after := _, guard := _ } :: _) _ _); go_must (refine copy_law rfl (.tmp 124) (.tmp 125) 22 22 rfl 21 Try.underlying22 size21 _ _ _ _ _ _ rfl rfl g1 l1 (splice Z 0 X1) 21 hc7.out X2 ?_ ?_ ?_ o2 ?_))
        · rw [HL.out.2.1]; exact (Nat.min_self _).symm
        · intro hp
          rw [HL.out.2.1] at hp
          refine ⟨by rw [← hd1, if_neg (by omega)], ?_⟩
          have := opt_src K3.row (w1 := w7) (by rw [HG1.out]; exact Q7) (by rw [f2]; exact hp)
          rw [HX2.out] at this
          exact this
        · rw [length_splice _ _ _ (by rw [HL.out.1, HL.out.2.2.2.2]; omega), HL.out.2.1, HL.out.2.2.2.2]; omega
        intro w8 hc8 hg8
        have hjf8 : Hid (Blk w8 g1 21 (X1 ++ X2)) := by
          have := hc8.out
          rw [splice2 Z X1 X2 l1 HL.out.1 (by rw [HL.out.2.1]; exact HL.out.2.2.2.2)] at this
          exact this
        have hjt8 : Blk w8 g2 21 Z := (hg8.block g2 sz2 (by simp; omega)).trans hjt7
        have Q8 : Below g1 w4 w8 := Q7.grown hg8 (by omega) (fun k hk => by have := Option.some.inj hk; omega)
        have sz1 : g1 < w8.heap.size := Nat.lt_of_lt_of_le sz1 hg8.size
        have sz2 : g2 < w8.heap.size := Nat.lt_of_lt_of_le sz2 hg8.size
        clear hg8 hc8 hc7 hjt7 Q7 hd1 hd1'
        go_wp2_with ((with_reducible show wpList _ _ _ ({ dst := some 129, op := _, type := _, pos := _, after := _, guard := _ } :: _) _ _); go_must (refine copy_law rfl (.tmp 127) (.tmp 128) 22 22 rfl 21 Try.underlying22 size21 _ _ _ _ _ _ rfl rfl g2 0 Z 21 hjt8 Y1 ?_ ?_ ?_ o3 ?_))
        · rw [HL.out.2.2.1]; exact (Nat.min_eq_left (by omega)).symm
        · intro hp
          have := opt_src K2.row (w1 := w8) (by rw [HG1.out]; exact Q8) (by rw [t1, ← HL.out.2.2.1]; exact hp)
          rw [HY1.out] at this
          exact this
        · rw [HL.out.2.2.1, HL.out.2.2.2.2]; omega
        intro w9 hc9 hg9
        have hjf9 : Hid (Blk w9 g1 21 (X1 ++ X2)) := (hg9.block g1 sz1 (by simp; omega)).trans hjf8.out
        have Q9 : Below g1 w4 w9 := Q8.grown hg9 (by omega) (fun k hk => by have := Option.some.inj hk; omega)
        have sz1 : g1 < w9.heap.size := Nat.lt_of_lt_of_le sz1 hg9.size
        have sz2 : g2 < w9.heap.size := Nat.lt_of_lt_of_le sz2 hg9.size
        clear hg9 hjf8 hjt8 Q8
        obtain ⟨d2, hd2⟩ : ∃ d : Option Addr, (if l3 = 0 then some (⟨g2, 0, none⟩ : Addr) else some ⟨g2, l1, none⟩) = d := ⟨_, rfl⟩
        have hd2' : (if l1 + l3 = l1 then some (⟨g2, 0, none⟩ : Addr) else some ⟨g2, l1, none⟩) = d2 := by rw [← hd2]; congr 1; simp
        go_wp2_with ((with_reducible show wpList _ _ _ ({ dst := some 134, op := _, type := _, pos := _, after := _, guard := _ } :: _) _ _); go_must (refine copy_law rfl (.tmp 132) (.tmp 133) 22 22 rfl 21 Try.underlying22 size21 _ _ _ _ _ _ rfl rfl g2 l1 (splice Z 0 Y1) 21 hc9.out Y2 ?_ ?_ ?_ o4 ?_))
        · rw [HL.out.2.2.2.1]; exact (Nat.min_self _).symm
        · intro hp
          rw [HL.out.2.2.2.1] at hp
          refine ⟨by rw [← hd2, if_neg (by omega)], ?_⟩
          have := opt_src k4.row (w1 := w9) (by rw [HG1.out]; exact Q9) (by rw [t2]; exact hp)
          rw [HY2.out] at this
          exact this
        · rw [length_splice _ _ _ (by rw [HL.out.2.2.1, HL.out.2.2.2.2]; omega), HL.out.2.2.2.1, HL.out.2.2.2.2]; omega
        intro w10 hc10 hg10
        have JF : Row .i32 w10 (some ⟨g1, 0, none⟩) (F1 ++ F2) := by
          have h : Blk w10 g1 21 (X1 ++ X2) := (hg10.block g1 sz1 (by simp; omega)).trans hjf9.out
          rw [← HX1.out, ← HX2.out, ← List.map_append] at h
          exact h.own.row
        have JT : Row .i32 w10 (some ⟨g2, 0, none⟩) (T1 ++ T2) := by
          have := hc10.out
          rw [splice2 Z Y1 Y2 l1 HL.out.2.2.1 (by rw [HL.out.2.2.2.1]; exact HL.out.2.2.2.2), ← HY1.out, ← HY2.out, ← List.map_append] at this
          exact (show Blk w10 g2 21 _ from this).own.row
        have Q10 : Below w4.heap.size w4 w10 := by rw [HG1.out]; exact Q9.grown hg10 (by omega) (fun k hk => by have := Option.some.inj hk; omega)
        have B10 : Below w.heap.size w w10 := B4.trans (Q10.mono B4.size)
        have R1 := K1.row.below Q10
        have R2 := K2.row.below Q10
        have R3 := K3.row.below Q10
        have R4 := k4.row.below Q10
        clear hg10 hc10 hc9 hjf9 Q9 Q10 hd2 hd2' K1 K2 K3 k4 B4 sz1 sz2 HL HX1 HX2 HY1 HY2 o1 o2 o3 o4 HG1
        go_wp2_with fail
        refine (zzgraph p1 p2 l1 l1 l1 n F1 T1 w10 R1 R2 f1 t1 s1 (by omega) hn).mono ?_
        rintro e w11 ⟨gs1, gf1, S1, G1, rfl, os1, og1, sp1, q⟩
        have R3 := R3.below q
        have R4 := R4.below q
        have JF := JF.below q
        have JT := JT.below q
        have B11 : Below w.heap.size w w11 := B10.trans (q.mono B10.size)
        clear q B10 R1 R2
        go_wp2_with fail
        refine (zzgraph p3 p4 l3 l3 l3 n F2 T2 w11 R3 R4 f2 t2 s2 (by omega) hn).mono ?_
        rintro e w12 ⟨gs2, gf2, S2, G2, rfl, os2, og2, sp2, q⟩
        have os1 := os1.below q os1.lt
        have og1 := og1.below q og1.lt
        have JF := JF.below q
        have JT := JT.below q
        have B12 : Below w.heap.size w w12 := B11.trans (q.mono B11.size)
        clear q B11 R3 R4
        go_wp2_with fail
        refine (zzgraph _ _ (l1 + l3) (l1 + l3) (l1 + l3) n (F1 ++ F2) (T1 ++ T2) w12 JF JT (by rw [List.length_append, f1, f2]) (by rw [List.length_append, t1, t2]) (s1.append s2) (by omega) hn).mono ?_
        rintro e w13 ⟨gs, gf, S, G, rfl, os, og, sp, q⟩
        have os1 := os1.below q os1.lt
        have og1 := og1.below q og1.lt
        have os2 := os2.below q os2.lt
        have og2 := og2.below q og2.lt
        have B13 : Below w.heap.size w w13 := B12.trans (q.mono B12.size)
        clear q B12 JF JT
        go_wp2_with fail
        refine (segs n l1 gs1 _ _ F1 T1 S1 G1 w13 rfl rfl os1 sp1 s1 t1 hn).mono ?_
        rintro e w14 ⟨rfl, d1, rfl⟩
        go_wp2_with fail
        refine (segs n l3 gs2 _ _ F2 T2 S2 G2 _ rfl rfl (os2.drewN d1) sp2 s2 t2 hn).mono ?_
        rintro e w14 ⟨rfl, d2, rfl⟩
        go_wp2_with fail
        refine (segs n (l1 + l3) gs _ _ (F1 ++ F2) (T1 ++ T2) S G _ (by simp) (by simp) (os.drewN _) sp (s1.append s2) (by rw [List.length_append, t1, t2]) hn).mono ?_
        rintro e w14 ⟨rfl, d3, rfl⟩
        go_wp2_with fail
        go_loopw [21] (fun uv wr => ∃ u d : Nat, u ≤ n ∧ uv = .int .i64 u ∧ wr = w13.drewN d) (fun uv _ => n - (intOf uv).toNat)
        case atStart => exact ⟨0, _, Nat.zero_le _, rfl, rfl⟩
        case round =>
          obtain ⟨u, d, hu, rfl, rfl⟩ := hrel
          by_cases hlt : u < n
          · obtain ⟨x, x', x1, x1', x2, x2', ea, eb, cx, cx', cx1, cx1', cx2, cx2', r1, r2, r3, r4, HJ⟩ := facts os os1 os2 og og1 og2 sp sp1 sp2 (by omega) u hlt
            rw [t1, t2] at r4
            have hA : (x1' : Int) - (x1 : Int) = (ea : Int) := by omega
            have hB : (x2' : Int) - (x2 : Int) = (eb : Int) := by omega
            have hne1 : ((x : Int) != (x1 : Int) + (x2 : Int)) = false := by simp; omega
            have hC : (x' : Int) - (x : Int) = (ea : Int) + (eb : Int) := by omega
            have y1 : x ≤ l1 + l3 := by omega
            have y2 : x1 ≤ l1 + l3 := by omega
            have y3 : x2 ≤ l1 + l3 := by omega
            have y4 : ea ≤ l1 + l3 := by omega
            have y5 : eb ≤ l1 + l3 := by omega
            have y6 : x' ≤ l1 + l3 := by omega
            have y7 : x1' ≤ l1 + l3 := by omega
            have y8 : x2' ≤ l1 + l3 := by omega
            clear r1 r2 r3 r4
            go_wp2
            go_quiet (fail)
            go_wp2
            go_quiet (fail)
            go_wp2
            go_quiet (fail)
            go_wp2
            clear hA hB hne1 hC
            go_loopw [24] (fun kv wr => ∃ k d : Nat, k ≤ ea ∧ kv = .int .i64 k ∧ wr = w13.drewN d) (fun kv _ => ea - (intOf kv).toNat)
            case atStart => exact ⟨0, _, Nat.zero_le _, rfl, by simp; rfl⟩
            case round =>
              obtain ⟨k, d, hk, rfl, rfl⟩ := hrel
              by_cases hlk : k < ea
              · obtain ⟨q1, q2, v, v1, v2⟩ := HJ.1 k hlk
                rw [t1] at q1 q2
                rw [t2] at q1
                go_wp2
                go_quiet (fail)
                go_wp2
                go_roundw
                case rel => exact ⟨k + 1, _, by omega, by go_num, rfl⟩
                case measure => simp [intOf]; omega
              · obtain rfl : ea = k := by omega
                go_wp2
                go_loopw [25] (fun kv wr => ∃ k d : Nat, k ≤ eb ∧ kv = .int .i64 k ∧ wr = w13.drewN d) (fun kv _ => eb - (intOf kv).toNat)
                case atStart => exact ⟨0, _, Nat.zero_le _, rfl, rfl⟩
                case round =>
                  obtain ⟨k, d, hk, rfl, rfl⟩ := hrel
                  by_cases hlk : k < eb
                  · obtain ⟨q1, q2, v, v1, v2⟩ := HJ.2 k hlk
                    rw [t1, t2] at q1
                    rw [t2] at q2
                    go_wp2
                    go_quiet (fail)
                    go_wp2
                    go_roundw
                    case rel => exact ⟨k + 1, _, by omega, by go_num, rfl⟩
                    case measure => simp [intOf]; omega
                  · go_wp2
                    go_roundw
                    case rel => exact ⟨u + 1, _, by omega, by go_num, rfl⟩
                    case measure => simp [intOf]; omega
          · go_wp2_with fail
            go_ret
            exact ⟨rfl, below_drewN B13 _⟩

theorem law1 (N : Int) (a1 a2 a3 a4 : Option Addr) (l1 c1 l2 c2 l3 c3 l4 c4 : Nat) (F1 T1 F2 T2 : List Int) (w : World) (hN : (Lit.int .i64 N).wf = true) (h1 : Sl w a1 l1 c1 F1) (h2 : Sl w a2 l2 c2 T1) (h3 : Sl w a3 l3 c3 F2) (h4 : Sl w a4 l4 c4 T2) :
    Calls Try.prog 4 #[.int .i64 N, .slice a1 l1 c1, .slice a2 l2 c2, .slice a3 l3 c3, .slice a4 l4 c4] w fun e w' => e = .returned (.bool true) ∧ Below w.heap.size w w' := by
  by_cases hin : l1 ≤ 65536 ∧ l2 ≤ 65536 ∧ l3 ≤ 65536 ∧ l4 ≤ 65536 ∧ 0 ≤ N ∧ N ≤ 65536 ∧ l1 = l2 ∧ l3 = l4
  · obtain ⟨b1, _, b3, _, n0, n1, rfl, rfl⟩ := hin
    obtain ⟨n, rfl⟩ : ∃ n : Nat, N = (n : Int) := ⟨N.toNat, by omega⟩
    exact main1 n a1 a2 a3 a4 l1 c1 c2 l3 c3 c4 F1 T1 F2 T2 w (by omega) b1 b3 h1 h2 h3 h4
  · exact early1 N a1 a2 a3 a4 l1 c1 l2 c2 l3 c3 l4 c4 w h1.max h2.max h3.max h4.max hN hin
end Go.Proofs.Qxb6604786a.Gr
