/-
  What the walks of this seat share: rows of numbers that came in, and rows that the call itself makes.
-/
import Derived.Test.Qxb6604786aRows
import Derived.WalkKit
import Derived.ProofKit
import Derived.OpenShut
import Derived.Below
import Derived.WalkSmall
import Derived.Deep.Draws
import Derived.Deep.QuietTactic
import Derived.BigQuiet
import Derived.RegionTactic
import Derived.Laws.CopyOwn
import Derived.WalkLawsBesides
import Derived.WalkSpells
import Derived.Test.Qxb6604786aGrPlain
namespace Go.Proofs.Qxb6604786a
open Go.RowKit

/-- The slice's address 'a' leads to the numbers 'xs' of kind k (nothing is said of the address where there is none). -/
def Row (k : IntKind) (w : World) (a : Option Addr) (xs : List Int) : Prop :=
  xs = [] ∨ ∃ b off, a = some ⟨b, off, none⟩ ∧ b < w.heap.size ∧ ∀ j, j < xs.length → w.cell? ⟨b, off + j, none⟩ = some (.int k (xs.getD j 0))

def Cells (k : IntKind) (w : World) (b off : Nat) (xs : List Int) : Prop := ∀ j, j < xs.length → w.cell? ⟨b, off + j, none⟩ = some (.int k (xs.getD j 0))

theorem Cells.get {k : IntKind} {w : World} {b off : Nat} {xs : List Int} (h : Cells k w b off xs) (j : Nat) (hj : j < xs.length) :
    ∃ x, w.cell? ⟨b, off + j, none⟩ = some (.int k x) ∧ Hid (xs.getD j 0 = x) := ⟨_, h j hj, rfl⟩

theorem Row.at {k : IntKind} {w : World} {a : Option Addr} {xs : List Int} (h : Row k w a xs) {j : Nat} (hj : j < xs.length) :
    ∃ b off, a = some ⟨b, off, none⟩ ∧ b < w.heap.size ∧ Cells k w b off xs := by
  rcases h with rfl | h
  · simp at hj
  · exact h

theorem Row.below {k : IntKind} {w w' : World} {a : Option Addr} {xs : List Int} (h : Row k w a xs) (hb : Below w.heap.size w w') : Row k w' a xs := by
  rcases h with h | ⟨b, off, ha, hlt, hc⟩
  · exact .inl h
  · exact .inr ⟨b, off, ha, Nat.lt_of_lt_of_le hlt hb.size, fun j hj => (hb.cell (by exact hlt)).trans (hc j hj)⟩

theorem Row.drewN {k : IntKind} {w : World} {a : Option Addr} {xs : List Int} (h : Row k w a xs) (n : Nat) : Row k (w.drewN n) a xs := h

/-! ### A row of the call's own -/
/-- Block g is a row (of element type e) whose first cells are 'xs'. -/
def Own (w : World) (g : Nat) (e : TypeId) (xs : List Value) : Prop := ∃ cur : Array Value, w.heap[g]? = some (.cells cur e (0, 0)) ∧ cur.toList.take xs.length = xs

/-- .. whose cells are 'xs', no more. -/
def Blk (w : World) (g : Nat) (e : TypeId) (xs : List Value) : Prop := w.heap[g]? = some (.cells xs.toArray e (0, 0))

theorem Blk.own {w : World} {g : Nat} {e : TypeId} {xs : List Value} (h : Blk w g e xs) : Own w g e xs := ⟨_, h, by simp⟩

theorem Own.lt {w : World} {g : Nat} {e : TypeId} {xs : List Value} (h : Own w g e xs) : g < w.heap.size := by
  obtain ⟨cur, hg, _⟩ := h
  exact (Array.getElem?_eq_some_iff.1 hg).1

theorem Own.cell {w : World} {g : Nat} {e : TypeId} {xs : List Value} (h : Own w g e xs) (j : Nat) (hj : j < xs.length) : w.cell? ⟨g, j, none⟩ = xs[j]? := by
  obtain ⟨cur, hg, ht⟩ := h
  rw [cell_of_row w g j cur e (0, 0) hg]
  conv => rhs; rw [← ht]
  rw [List.getElem?_take, if_pos hj]
  simp

theorem Own.frozen {w : World} {g : Nat} {e : TypeId} {xs : List Value} (h : Own w g e xs) (j : Nat) : w.frozen? ⟨g, j, none⟩ = false := by
  obtain ⟨cur, hg, _⟩ := h
  exact frozen_of_row w g j cur e hg

theorem Own.set {w : World} {g : Nat} {e : TypeId} {xs : List Value} (h : Own w g e xs) (j : Nat) (u : Value) : Own (w.setCell ⟨g, j, none⟩ u) g e (xs.set j u) := by
  obtain ⟨cur, hg, ht⟩ := h
  refine ⟨cur.setIfInBounds j u, heap_setCell_same w g j cur e u hg, ?_⟩
  rw [Array.toList_setIfInBounds, List.length_set, List.take_set, ht]

theorem Own.same {w w' : World} {g : Nat} {e : TypeId} {xs : List Value} (h : Own w g e xs) (hs : w'.heap[g]? = w.heap[g]?) : Own w' g e xs := by
  obtain ⟨cur, hg, ht⟩ := h
  exact ⟨cur, hs.trans hg, ht⟩

theorem Own.other {w : World} {g : Nat} {e : TypeId} {xs : List Value} (h : Own w g e xs) (a : Addr) (u : Value) (hne : g ≠ a.block) : Own (w.setCell a u) g e xs :=
  h.same (heap_setCell_other w a g u hne)

theorem Own.alloc {w : World} {g : Nat} {e : TypeId} {xs : List Value} (h : Own w g e xs) (o : Obj) : Own (w.alloc o) g e xs :=
  h.same (Below.heap_alloc w o g h.lt)

theorem Own.drew {w : World} {g : Nat} {e : TypeId} {xs : List Value} (h : Own w g e xs) : Own w.drew g e xs := h
theorem Own.drewN {w : World} {g : Nat} {e : TypeId} {xs : List Value} (h : Own w g e xs) (n : Nat) : Own (w.drewN n) g e xs := h

theorem Own.below {w w' : World} {B g : Nat} {e : TypeId} {xs : List Value} (h : Own w g e xs) (hb : Below B w w') (hg : g < B) : Own w' g e xs := h.same (hb.block g hg)

theorem Own.grown {w w' : World} {g : Nat} {e : TypeId} {xs : List Value} {row : Option Nat} (h : Own w g e xs) (hg : w.grownBy w' row) (hne : some g ≠ row) : Own w' g e xs :=
  h.same (hg.block g h.lt hne)

theorem Own.of_made {w : World} {base g n : Nat} {e : TypeId} {size : Nat} {xs : List Value} (h : w.ownsRow base e size (.slice (some ⟨g, 0, none⟩) n n) n xs) : Blk w g e xs := by
  obtain ⟨hl, h2⟩ := h
  rcases h2 with ⟨h', _⟩ | ⟨g', cap', cur, h', _, hg, _, _, hcs, ht⟩
  · simp at h'
  · simp only [Value.slice.injEq, Option.some.injEq, Addr.mk.injEq, and_true, true_and] at h'
    obtain ⟨rfl, rfl⟩ := h'
    unfold Blk
    rw [hg]
    have : cur.toList = xs := by rw [← ht, List.take_of_length_le (by simp; omega)]
    rw [← this]

theorem Own.of_owns {w : World} {base g n cap : Nat} {e : TypeId} {size : Nat} {xs : List Value} (h : w.ownsRow base e size (.slice (some ⟨g, 0, none⟩) n cap) n xs) : Own w g e xs := by
  obtain ⟨hl, h2⟩ := h
  rcases h2 with ⟨h', _⟩ | ⟨g', cap', cur, h', _, hg, _, _, hcs, ht⟩
  · simp at h'
  · simp only [Value.slice.injEq, Option.some.injEq, Addr.mk.injEq, and_true, true_and] at h'
    obtain ⟨rfl, rfl⟩ := h'
    exact ⟨cur, hg, by rw [hl]; exact ht⟩

/-- numbers in a row of the call's own -/
theorem Own.int {w : World} {g : Nat} {e : TypeId} {k : IntKind} {ys : List Int} (h : Own w g e (ys.map (Value.int k))) (j : Nat) (hj : j < ys.length) : w.cell? ⟨g, j, none⟩ = some (.int k (ys.getD j 0)) := by
  rw [h.cell j (by simpa using hj)]
  simp [hj]

theorem Own.setInt {w : World} {g : Nat} {e : TypeId} {k : IntKind} {ys : List Int} (h : Own w g e (ys.map (Value.int k))) (j : Nat) (x : Int) : Own (w.setCell ⟨g, j, none⟩ (.int k x)) g e ((ys.set j x).map (Value.int k)) := by
  rw [List.map_set]
  exact h.set j _

theorem Own.row {w : World} {g : Nat} {e : TypeId} {k : IntKind} {ys : List Int} (h : Own w g e (ys.map (Value.int k))) : Row k w (some ⟨g, 0, none⟩) ys :=
  .inr ⟨g, 0, rfl, h.lt, fun j hj => by rw [Nat.zero_add]; exact h.int j hj⟩

theorem below_grown0 {B : Nat} {a w w' : World} (h : Below B a w) (hg : w.grownBy w' none) (hB : B ≤ w.heap.size) : Below B a w' :=
  h.grown hg hB (fun _ h => by cases h)

theorem eq_of_getD {xs ys : List Int} (hl : xs.length = ys.length) (h : ∀ j, j < xs.length → xs.getD j 0 = ys.getD j 0) : xs = ys := by
  apply List.ext_getElem hl
  intro i h1 h2
  have := h i h1
  simpa [h1, h2] using this

theorem Try.info3 : (Try.prog.info? 3).map (fun i => (i.zero, i.size, i.bytes)) = some (some (.int .i64 0), 1, 8) := by kernel_rfl
theorem Try.info21 : (Try.prog.info? 21).map (fun i => (i.zero, i.size, i.bytes)) = some (some (.int .i32 0), 1, 4) := by kernel_rfl
theorem Try.info44 : (Try.prog.info? 44).map (fun i => (i.zero, i.size, i.bytes)) = some (some (.agg #[.int .i32 0, .int .i32 0]), 2, 8) := by kernel_rfl

theorem made_zeros (k : IntKind) (n : Nat) : (madeCells #[Value.int k 0] n).toList = (List.replicate n (0 : Int)).map (Value.int k) := by
  rw [toList_madeCells_one]
  simp

/-! ### A slice that came in -/
structure Sl (w : World) (a : Option Addr) (len cap : Nat) (xs : List Int) : Prop where
  nil : a = none → len = 0 ∧ cap = 0
  row : Row .i32 w a xs
  size : xs.length = len
  max : len ≤ maxLen
  fit : ∀ x ∈ xs, (Lit.int .i32 x).wf = true

theorem Sl.below {w w' : World} {a : Option Addr} {len cap : Nat} {xs : List Int} (h : Sl w a len cap xs) (hb : Below w.heap.size w w') : Sl w' a len cap xs :=
  ⟨h.nil, h.row.below hb, h.size, h.max, h.fit⟩

theorem Sl.drewN {w : World} {a : Option Addr} {len cap : Nat} {xs : List Int} (h : Sl w a len cap xs) (n : Nat) : Sl (w.drewN n) a len cap xs := ⟨h.nil, h.row, h.size, h.max, h.fit⟩

theorem Sl.of (w : World) (a : Option Addr) (len cap : Nat) (zs : List Int)
    (h : (a = none ∧ len = 0 ∧ cap = 0 ∧ zs = []) ∨
      ∃ x, a = some x ∧ len ≤ cap ∧ cap ≤ maxLen ∧ zs.length = cap ∧ (∀ i, i < zs.length → w.cell? (x.add i) = some (.int .i32 (zs.getD i 0))) ∧ ∀ n ∈ zs, (Lit.int .i32 n).wf = true) :
    ∃ xs, Sl w a len cap xs := by
  rcases h with ⟨rfl, rfl, rfl, rfl⟩ | ⟨x, rfl, h1, h2, h3, h4, h5⟩
  · exact ⟨[], fun _ => ⟨rfl, rfl⟩, .inl rfl, rfl, Nat.zero_le _, by simp⟩
  · refine ⟨zs.take len, fun h => (by cases h), ?_, by simp; omega, by omega, fun n hn => h5 n (List.mem_of_mem_take hn)⟩
    by_cases hz : len = 0
    · subst hz; exact .inl (by simp)
    · obtain ⟨b, off, spot⟩ := x
      have g0 := h4 0 (by omega)
      have hspot : spot = none := by simpa [Addr.add] using World.cell?_spot g0
      subst hspot
      refine .inr ⟨b, off, rfl, World.block_lt_of_cell? w _ g0, fun j hj => ?_⟩
      have hj' : j < len := by simp at hj; omega
      have := h4 j (by omega)
      rw [WideShapes.add_plain] at this
      rw [this]
      simp [hj']

end Go.Proofs.Qxb6604786a
