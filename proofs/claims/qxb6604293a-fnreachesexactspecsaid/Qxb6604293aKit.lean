/-
  What the walks of this seat share: a row of int64 numbers in memory, and how it is carried from one world to the next.
-/
import Derived.Test.Qxb6604293aRows
import Derived.WalkKit
import Derived.ProofKit
import Derived.OpenShut
import Derived.Below
import Derived.WalkSmall
import Derived.Deep.Draws
import Derived.Deep.QuietTactic
import Derived.BigQuiet
import Derived.WalkLawsBesides
import Derived.WalkSpells
namespace Go.Proofs.Qxb6604293a
open Go.RowKit

/-- The slice's address 'a' leads to the numbers 'xs' (nothing is said of the address where there is none). -/
def Row (w : World) (a : Option Addr) (xs : List Int) : Prop :=
  xs = [] ∨ ∃ b off, a = some ⟨b, off, none⟩ ∧ b < w.heap.size ∧ ∀ j, j < xs.length → w.cell? ⟨b, off + j, none⟩ = some (.int .i64 (xs.getD j 0))

/-- What the numbers at a known address read, kept from the walk. -/
def Cells (w : World) (b off : Nat) (xs : List Int) : Prop := ∀ j, j < xs.length → w.cell? ⟨b, off + j, none⟩ = some (.int .i64 (xs.getD j 0))

theorem Cells.get {w : World} {b off : Nat} {xs : List Int} (h : Cells w b off xs) (k : Nat) (hk : k < xs.length) :
    ∃ x, w.cell? ⟨b, off + k, none⟩ = some (.int .i64 x) ∧ Hid (xs.getD k 0 = x) := ⟨_, h k hk, rfl⟩

theorem Row.at {w : World} {a : Option Addr} {xs : List Int} (h : Row w a xs) {k : Nat} (hk : k < xs.length) :
    ∃ b off, a = some ⟨b, off, none⟩ ∧ b < w.heap.size ∧ Cells w b off xs := by
  rcases h with rfl | h
  · simp at hk
  · exact h

theorem Row.below {w w' : World} {a : Option Addr} {xs : List Int} (h : Row w a xs) (hb : Below w.heap.size w w') : Row w' a xs := by
  rcases h with h | ⟨b, off, ha, hlt, hc⟩
  · exact .inl h
  · exact .inr ⟨b, off, ha, Nat.lt_of_lt_of_le hlt hb.size, fun j hj => (hb.cell (by exact hlt)).trans (hc j hj)⟩

theorem Row.drewN {w : World} {a : Option Addr} {xs : List Int} (h : Row w a xs) (n : Nat) : Row (w.drewN n) a xs := h

/-- The call's own row of numbers (element type e: 2 for int64, 3 for int) at the head of block g. -/
theorem own_get {w : World} {base g n cap : Nat} {e : TypeId} {ys : List Int} (h : w.ownsRow base e 1 (.slice (some ⟨g, 0, none⟩) n cap) n (ys.map (Value.int .i64))) (j : Nat) (hj : j < n) :
    w.cell? ⟨g, j, none⟩ = some (.int .i64 (ys.getD j 0)) := by
  have hl := h.1
  simp at hl
  rw [h.cellAt j (by omega)]
  simp [hl, hj]

theorem own_lt {w : World} {base g n cap : Nat} {e : TypeId} {xs : List Value} (h : w.ownsRow base e 1 (.slice (some ⟨g, 0, none⟩) n cap) n xs) : base ≤ g ∧ g < w.heap.size := h.lt g rfl

theorem own_row {w : World} {base g n cap : Nat} {e : TypeId} {ys : List Int} (h : w.ownsRow base e 1 (.slice (some ⟨g, 0, none⟩) n cap) n (ys.map (Value.int .i64))) :
    Row w (some ⟨g, 0, none⟩) ys := by
  have hl := h.1
  simp at hl
  refine .inr ⟨g, 0, rfl, (own_lt h).2, fun j hj => ?_⟩
  rw [Nat.zero_add]
  exact own_get h j (by omega)

theorem own_set {w : World} {base g n cap : Nat} {e : TypeId} {ys : List Int} (h : w.ownsRow base e 1 (.slice (some ⟨g, 0, none⟩) n cap) n (ys.map (Value.int .i64))) (j : Nat) (x : Int) :
    (w.setCell ⟨g, j, none⟩ (.int .i64 x)).ownsRow base e 1 (.slice (some ⟨g, 0, none⟩) n cap) n ((ys.set j x).map (Value.int .i64)) := by
  rw [List.map_set]
  exact (h.stored j _).1

theorem below_grown0 {B : Nat} {a w w' : World} (h : Below B a w) (hg : w.grownBy w' none) (hB : B ≤ w.heap.size) : Below B a w' :=
  h.grown hg hB (fun _ h => by cases h)

theorem getD_set_eq (ys : List Int) (k : Nat) (x : Int) (hk : k < ys.length) : (ys.set k x).getD k 0 = x := by simp [hk]
theorem getD_set_ne (ys : List Int) (k j : Nat) (x : Int) (h : j ≠ k) : (ys.set k x).getD j 0 = ys.getD j 0 := by
  simp [Ne.symm h]

theorem eq_of_getD {xs ys : List Int} (hl : xs.length = ys.length) (h : ∀ j, j < xs.length → xs.getD j 0 = ys.getD j 0) : xs = ys := by
  apply List.ext_getElem hl
  intro i h1 h2
  have := h i h1
  simpa [h1, h2] using this

theorem Try.info3 : (Try.prog.info? 3).map (fun i => (i.zero, i.size, i.bytes)) = some (some (.int .i64 0), 1, 8) := by kernel_rfl
theorem Try.info2 : (Try.prog.info? 2).map (fun i => (i.zero, i.size, i.bytes)) = some (some (.int .i64 0), 1, 8) := by kernel_rfl

theorem made_zeros (n : Nat) : (madeCells #[Value.int .i64 0] n).toList = (List.replicate n (0 : Int)).map (Value.int .i64) := by
  rw [toList_madeCells_one]
  simp

/-- A slice that came in: its elements 'xs'. -/
structure Sl (w : World) (a : Option Addr) (len cap : Nat) (xs : List Int) : Prop where
  nil : a = none → len = 0 ∧ cap = 0
  row : Row w a xs
  size : xs.length = len
  max : len ≤ maxLen
  fit : ∀ x ∈ xs, (Lit.int .i64 x).wf = true

theorem Sl.below {w w' : World} {a : Option Addr} {len cap : Nat} {xs : List Int} (h : Sl w a len cap xs) (hb : Below w.heap.size w w') : Sl w' a len cap xs :=
  ⟨h.nil, h.row.below hb, h.size, h.max, h.fit⟩

theorem Sl.drewN {w : World} {a : Option Addr} {len cap : Nat} {xs : List Int} (h : Sl w a len cap xs) (n : Nat) : Sl (w.drewN n) a len cap xs := ⟨h.nil, h.row, h.size, h.max, h.fit⟩

/-- Out of what the frame tells the walk of an argument. -/
theorem Sl.of (w : World) (a : Option Addr) (len cap : Nat) (zs : List Int)
    (h : (a = none ∧ len = 0 ∧ cap = 0 ∧ zs = []) ∨
      ∃ x, a = some x ∧ len ≤ cap ∧ cap ≤ maxLen ∧ zs.length = cap ∧ (∀ i, i < zs.length → w.cell? (x.add i) = some (.int .i64 (zs.getD i 0))) ∧ ∀ n ∈ zs, (Lit.int .i64 n).wf = true) :
    ∃ xs, Sl w a len cap xs := by
  rcases h with ⟨rfl, rfl, rfl, rfl⟩ | ⟨x, rfl, h1, h2, h3, h4, h5⟩
  · exact ⟨[], fun _ => ⟨rfl, rfl⟩, .inl rfl, rfl, Nat.zero_le _, by simp⟩
  · refine ⟨zs.take len, fun h => (by cases h), ?_, by simp; omega, by omega, fun n hn => h5 n (List.mem_of_mem_take hn)⟩
    by_cases hz : len = 0
    · subst hz; exact .inl (by simp)
    · obtain ⟨b, off, spot⟩ := x
      have g0 := h4 0 (by omega)
      have hspot : spot = none := by simpa [Addr.add] using World.cell?_spot g0
      subst hspot
      refine .inr ⟨b, off, rfl, World.block_lt_of_cell? w _ g0, fun j hj => ?_⟩
      have hj' : j < len := by simp at hj; omega
      have := h4 j (by omega)
      rw [WideShapes.add_plain] at this
      rw [this]
      simp [hj']

end Go.Proofs.Qxb6604293a
