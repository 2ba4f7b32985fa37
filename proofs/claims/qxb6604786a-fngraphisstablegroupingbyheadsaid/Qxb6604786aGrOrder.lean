import Derived.Test.Qxb6604786aGrWalks
import Derived.Test.Qxb6604786aGrSort
namespace Go.Proofs.Qxb6604786a.Gr
open Go.RowKit

def nats (A : List Nat) : List Value := A.map (fun x : Nat => Value.int .i64 (x : Int))

theorem own_nat {w : World} {g : Nat} {e : TypeId} {A : List Nat} (h : Own w g e (nats A)) (j : Nat) (hj : j < A.length) : w.cell? ⟨g, j, none⟩ = some (.int .i64 ((A.getD j 0 : Nat) : Int)) := by
  rw [h.cell j (by simpa [nats] using hj)]
  simp [nats, hj]

theorem own_setNat {w : World} {g : Nat} {e : TypeId} {A : List Nat} (h : Own w g e (nats A)) (j x : Nat) : Own (w.setCell ⟨g, j, none⟩ (.int .i64 (x : Int))) g e (nats (A.set j x)) := by
  have := h.set j (.int .i64 (x : Int))
  unfold nats at *
  rw [List.map_set]
  exact this

theorem made_nats (n : Nat) : (madeCells #[Value.int .i64 0] n).toList = nats (List.replicate n 0) := by
  rw [made_zeros]
  simp [nats]

theorem gmin (X Y : Int) (r : Nat) (h : (if X < Y then X else Y) = (r : Int)) (w : World) :
    Calls Try.prog 26 #[.int .i64 X, .int .i64 Y] w fun e w' => e = .returned (.int .i64 (r : Int)) ∧ w' = w := by
  by_cases hlt : X < Y
  · rw [if_pos hlt] at h
    subst h
    go_enter Try.func26, Try.ntmps26
    go_wp2
    go_ret
    exact ⟨rfl, rfl⟩
  · rw [if_neg hlt] at h
    subst h
    go_enter Try.func26, Try.ntmps26
    go_wp2
    go_ret
    exact ⟨rfl, rfl⟩

set_option maxRecDepth 100000 in
set_option maxHeartbeats 1000000 in
theorem order_any (a0 : Option Addr) (m c0 : Nat) (ts : List Int) (w : World) (h0 : Row .i32 w a0 ts) (htl : ts.length = m) (hm : m ≤ 65536) :
    Calls Try.prog 11 #[.slice a0 m c0] w fun e w' => ∃ g A, e = .returned (.slice (some ⟨g, 0, none⟩) m m) ∧ Own w' g 3 (nats A) ∧ Sorted ts A ∧ Below w.heap.size w w' := by
  obtain ⟨i0, hi, hz0, hz1, hz2⟩ := info_parts Try.info3
  go_enter Try.func11, Try.ntmps11
  go_wp2_with (at_make; refine wpList_make_full _ rfl (.tmp 16) (.tmp 16) 25 rfl w.heap.size 3 i0 (.int .i64 0) 1 Try.underlying25 hi hz0 hz1 _ _ _ _ m rfl rfl rfl rfl ?_ ?_ ?_ ?_)
  · rw [hz2]; omega
  · unfold maxLen; omega
  · exact Nat.le_refl _
  intro w1 hown hg
  rw [made_nats] at hown
  have ha := (Own.of_made hown).own
  have hbel : Below w.heap.size w w1 := below_grown0 (Below.refl _ _) hg (Nat.le_refl _)
  clear hown hg
  go_wp2
  go_loopw [5] (fun iv wr => ∃ (i : Nat) (A : List Nat), i ≤ m ∧ iv = .int .i64 i ∧ A.length = m ∧ (∀ j, j < i → A.getD j 0 = j) ∧ Own wr w.heap.size 3 (nats A) ∧ Below w.heap.size w wr) (fun iv _ => m - (intOf iv).toNat)
  case atStart => exact ⟨0, _, Nat.zero_le _, rfl, by simp, fun j h => absurd h (by omega), ha, hbel⟩
  case round =>
    clear ha hbel
    obtain ⟨i, A, him, rfl, hA, hAj, ha, hbel⟩ := hrel
    have HA : Hid (A.length = m ∧ ∀ j, j < i → A.getD j 0 = j) := ⟨hA, hAj⟩
    clear hA hAj
    by_cases hlt : i < m
    · have c1 := own_nat ha i (by rw [HA.out.1]; exact hlt)
      have c2 := ha.frozen i
      go_wp2
      go_roundw
      case rel =>
        refine ⟨i + 1, A.set i i, by omega, by go_num, by rw [List.length_set]; exact HA.out.1, fun j hj => ?_, own_setNat ha i i, hbel.setCell (p := ⟨w.heap.size, i, none⟩) (Nat.le_refl _) _⟩
        by_cases e : j = i
        · subst e; simp [HA.out.1, hlt]
        · have := HA.out.2 j (by omega)
          simp only [List.getD_eq_getElem?_getD] at this ⊢
          rw [List.getElem?_set_ne (by omega)]
          exact this
      case measure => simp [intOf]; omega
    · obtain rfl : m = i := by omega
      obtain rfl : A = List.range m := by
        apply List.ext_getElem (by rw [HA.out.1]; simp)
        intro k h1 h2
        have := HA.out.2 k (by rw [← HA.out.1]; exact h1)
        simp [h1] at this
        simpa using this
      have hsz : w.heap.size < wr.heap.size := ha.lt
      go_wp2_with (at_make; refine wpList_make_full _ rfl (.tmp 27) (.tmp 27) 25 rfl w.heap.size 3 i0 (.int .i64 0) 1 Try.underlying25 hi hz0 hz1 _ _ _ _ m rfl rfl rfl rfl ?_ ?_ ?_ ?_)
      · rw [hz2]; omega
      · unfold maxLen; omega
      · omega
      intro w2 hown hg
      rw [made_nats] at hown
      have hb := (Own.of_made hown).own
      have ha2 := ha.grown hg (by simp)
      have hbel2 : Below w.heap.size w w2 := below_grown0 hbel hg (by omega)
      obtain ⟨gb, hgb⟩ : ∃ g, wr.heap.size = g := ⟨_, rfl⟩
      rw [hgb] at hb hsz ⊢
      clear hown hg ha hbel hz0 hz1 hz2 hi hgb HA
      go_wp2
      go_loopw [4, 6, 7] (fun av bv wv wr => ∃ (wd ga gb : Nat) (A b : List Nat), av = .slice (some ⟨ga, 0, none⟩) m m ∧ bv = .slice (some ⟨gb, 0, none⟩) m m ∧ wv = .int .i64 wd ∧ 1 ≤ wd ∧ wd ≤ 131072 ∧ ga ≠ gb ∧ w.heap.size ≤ ga ∧ w.heap.size ≤ gb ∧ A.length = m ∧ b.length = m ∧
        Runs ts A m wd ∧ Own wr ga 3 (nats A) ∧ Own wr gb 3 (nats b) ∧ Below w.heap.size w wr) (fun _ _ wv _ => 131072 - (intOf wv).toNat)
      case atStart => exact ⟨1, w.heap.size, gb, _, _, rfl, rfl, rfl, by omega, by omega, by omega, by omega, by omega, by simp, by simp, Runs.start ts m, ha2, hb, hbel2⟩
      case round =>
        clear ha2 hb hbel2 hsz
        obtain ⟨wd, ga, gb, A, b, rfl, rfl, rfl, w1, w2, hne, hga, hgb, hA, hb0, hR, ha, hb, hbel⟩ := hrel
        have HA : Hid (A.length = m ∧ b.length = m) := ⟨hA, hb0⟩
        clear hA hb0
        by_cases hlt : wd < m
        · go_wp2
          go_loopw [8] (fun lv wr => ∃ (lo : Nat) (b : List Nat), lv = .int .i64 lo ∧ lo ≤ 400000 ∧ 2 * wd ∣ lo ∧ b.length = m ∧ Upto ts b m wd lo ∧ Own wr ga 3 (nats A) ∧ Own wr gb 3 (nats b) ∧ Below w.heap.size w wr) (fun lv _ => m - (intOf lv).toNat)
          case atStart => exact ⟨0, b, rfl, by omega, ⟨0, rfl⟩, HA.out.2, Upto.start ts b m wd, ha, hb, hbel⟩
          case round =>
            have HA0 : Hid (A.length = m) := HA.out.1
            clear ha hb hbel HA b
            obtain ⟨lo, b, rfl, hlo, hdv, hbl, hU, ha, hb, hbel⟩ := hrel
            have HB : Hid (b.length = m) := hbl
            have HD : Hid (2 * wd ∣ lo) := hdv
            clear hbl hdv
            by_cases hlm : lo < m
            · obtain ⟨mid, hmid⟩ : ∃ x, min (lo + wd) m = x := ⟨_, rfl⟩
              obtain ⟨hi, hhi⟩ : ∃ x, min (lo + 2 * wd) m = x := ⟨_, rfl⟩
              have v1 : lo ≤ mid := by omega
              have v2 : mid ≤ hi := by omega
              have v3 : hi ≤ m := by omega
              have M1 := fun wx => gmin ((lo : Int) + (wd : Int)) (m : Int) mid (by split <;> omega) wx
              have M2 := fun wx => gmin ((lo : Int) + 2 * (wd : Int)) (m : Int) hi (by split <;> omega) wx
              have HM : Hid (min (lo + wd) m = mid ∧ min (lo + 2 * wd) m = hi) := ⟨hmid, hhi⟩
              clear hmid hhi
              go_wp2_with fail
              refine (M1 _).mono ?_
              rintro e wx ⟨rfl, rfl⟩
              go_wp2_with fail
              refine (M2 _).mono ?_
              rintro e wx ⟨rfl, rfl⟩
              clear M1 M2
              go_wp2_with fail
              go_loopw [11, 12, 13] (fun iv jv kv wr => ∃ (i j k : Nat) (b' : List Nat), iv = .int .i64 i ∧ jv = .int .i64 j ∧ kv = .int .i64 k ∧ Hand ts A b b' lo mid hi i j k ∧ Own wr ga 3 (nats A) ∧ Own wr gb 3 (nats b') ∧ Below w.heap.size w wr) (fun _ _ kv _ => hi - (intOf kv).toNat)
              case atStart => exact ⟨lo, mid, lo, b, rfl, rfl, rfl, Hand.start ts A b lo mid hi v1 v2 (by rw [HA0.out]; exact v3) (by rw [HA0.out, HB.out]), ha, hb, hbel⟩
              case round =>
                clear ha hb hbel
                obtain ⟨i, j, k, b', rfl, rfl, rfl, hh, ha, hb, hbel⟩ := hrel
                have q1 := hh.h1
                have q2 := hh.h2
                have q3 := hh.h3
                have q4 := hh.h4
                have q5 : k + mid ≤ i + j := Nat.le_of_eq hh.h6
                have q6 : i + j ≤ k + mid := Nat.le_of_eq hh.h6.symm
                by_cases hk : k < hi
                · obtain ⟨vb, cb⟩ : ∃ v, wr.cell? ⟨gb, k, none⟩ = some v := ⟨_, own_nat hb k (by rw [hh.h7, HA0.out]; omega)⟩
                  have fb := hb.frozen k
                  have kI : (k : Int) < (m : Int) := by omega
                  by_cases him : i < mid
                  · have iI : (i : Int) < (m : Int) := by omega
                    have hxm := hR.lt (by omega) HA0.out i (by omega)
                    have ca := own_nat ha i (by rw [HA0.out]; omega)
                    obtain ⟨x, hx⟩ : ∃ x, A.getD i 0 = x := ⟨_, rfl⟩
                    rw [hx] at hxm ca
                    have xI : (x : Int) < (m : Int) := by omega
                    have X : Hid (A.getD i 0 = x) := hx
                    clear hx
                    by_cases hj : j < hi
                    · have hym := hR.lt (by omega) HA0.out j (by omega)
                      have ca2 := own_nat ha j (by rw [HA0.out]; omega)
                      obtain ⟨y, hy⟩ : ∃ y, A.getD j 0 = y := ⟨_, rfl⟩
                      rw [hy] at hym ca2
                      have yI : (y : Int) < (m : Int) := by omega
                      have jI : (j : Int) < (m : Int) := by omega
                      have Y : Hid (A.getD j 0 = y) := hy
                      clear hy
                      obtain ⟨b0, o0, rfl, hb0, hc0⟩ := h0.at (j := x) (by omega)
                      obtain ⟨p, cp, P⟩ := hc0.get x (by omega)
                      obtain ⟨q, cq, Q⟩ := hc0.get y (by omega)
                      have cp' : wr.cell? ⟨b0, o0 + x, none⟩ = some (.int .i32 p) := (hbel.cell (by exact hb0)).trans cp
                      have cq' : wr.cell? ⟨b0, o0 + y, none⟩ = some (.int .i32 q) := (hbel.cell (by exact hb0)).trans cq
                      clear cp cq
                      have hjd : decide ((hi : Int) ≤ (j : Int)) = false := decide_eq_false (by omega)
                      by_cases hpq : p ≤ q
                      · go_wp2
                        go_quiet (fail)
                        go_wp2
                        go_roundw
                        case rel =>
                          refine ⟨i + 1, j, k + 1, b'.set k x, by go_num, rfl, by go_num, ?_, (ha.drewN nq).other _ _ hne, own_setNat (hb.drewN nq) k x, (below_drewN hbel nq).setCell (p := ⟨gb, k, none⟩) hgb _⟩
                          have := hh.left him (.inr (by rw [X.out, Y.out, P.out, Q.out]; exact hpq))
                          rw [X.out] at this
                          exact this
                        case measure => simp [intOf]; omega
                      · go_wp2
                        go_quiet (fail)
                        go_wp2
                        go_roundw
                        case rel =>
                          refine ⟨i, j + 1, k + 1, b'.set k y, rfl, by go_num, by go_num, ?_, (ha.drewN nq).other _ _ hne, own_setNat (hb.drewN nq) k y, (below_drewN hbel nq).setCell (p := ⟨gb, k, none⟩) hgb _⟩
                          have := hh.right hj (.inr (by rw [X.out, Y.out, P.out, Q.out]; omega))
                          rw [Y.out] at this
                          exact this
                        case measure => simp [intOf]; omega
                    · have hjI : (hi : Int) ≤ (j : Int) := by omega
                      go_wp2
                      go_quiet (fail)
                      go_wp2
                      go_roundw
                      case rel =>
                        refine ⟨i + 1, j, k + 1, b'.set k x, by go_num, rfl, by go_num, ?_, (ha.drewN nq).other _ _ hne, own_setNat (hb.drewN nq) k x, (below_drewN hbel nq).setCell (p := ⟨gb, k, none⟩) hgb _⟩
                        have := hh.left him (.inl (by omega))
                        rw [X.out] at this
                        exact this
                      case measure => simp [intOf]; omega
                  · have hj : j < hi := by omega
                    have jI : (j : Int) < (m : Int) := by omega
                    have ca2 := own_nat ha j (by rw [HA0.out]; omega)
                    obtain ⟨y, hy⟩ : ∃ y, A.getD j 0 = y := ⟨_, rfl⟩
                    rw [hy] at ca2
                    have Y : Hid (A.getD j 0 = y) := hy
                    clear hy
                    have hid : decide ((i : Int) < (mid : Int)) = false := decide_eq_false (by omega)
                    go_wp2
                    go_quiet (fail)
                    go_wp2
                    go_roundw
                    case rel =>
                      refine ⟨i, j + 1, k + 1, b'.set k y, rfl, by go_num, by go_num, ?_, (ha.drewN nq).other _ _ hne, own_setNat (hb.drewN nq) k y, (below_drewN hbel nq).setCell (p := ⟨gb, k, none⟩) hgb _⟩
                      have := hh.right hj (.inl (by omega))
                      rw [Y.out] at this
                      exact this
                    case measure => simp [intOf]; omega
                · obtain rfl : k = hi := by omega
                  go_wp2
                  go_roundw
                  case rel =>
                    have hU2 : Upto ts b' m wd (lo + 2 * wd) := Upto.step hR hU HD.out hlm (by rw [HM.out.1, HM.out.2]; exact hh)
                    exact ⟨lo + 2 * wd, b', by go_num, by omega, Nat.dvd_add HD.out (Nat.dvd_refl _), by rw [hh.h7]; exact HA0.out, hU2, ha, hb, hbel⟩
                  case measure => simp [intOf]; omega
            · go_wp2
              go_roundw
              case rel => exact ⟨wd * 2, gb, ga, b, A, rfl, rfl, by go_num, by omega, by omega, hne.symm, hgb, hga, HB.out, HA0.out, hU.runs (by omega), hb, ha, hbel⟩
              case measure => simp [intOf]; omega
        · go_wp2
          go_ret
          exact ⟨ga, A, rfl, ha, hR.sorted HA.out.1 htl (by omega), hbel⟩
end Go.Proofs.Qxb6604786a.Gr
