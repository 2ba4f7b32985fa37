import Derived.Test.Qxb6604293aKit
import Derived.Test.Qxb6604293aScPlain
namespace Go.Proofs.Qxb6604293a.Sc
open Go.RowKit

theorem drew2 (w : World) (n m : Nat) : (w.drewN n).drewN m = w.drewN (n + m) := World.drewN_drewN w n m
theorem drew3 (w : World) (n m k : Nat) : ((w.drewN n).drewN m).drewN k = w.drewN (n + m + k) := by rw [drew2, drew2, Nat.add_assoc]

/-! ### Go's '|' on int64, its sign -/
theorem or_toInt (a b : Int) : bits .or .i64 a b = (BitVec.ofInt 64 a ||| BitVec.ofInt 64 b).toInt := by
  show IntKind.i64.wrap ((BitVec.ofInt 64 a ||| BitVec.ofInt 64 b).toNat : Int) = _
  rw [IntKind.wrap_i64]
  have h := (BitVec.ofInt 64 a ||| BitVec.ofInt 64 b).isLt
  rw [BitVec.toInt_eq_toNat_cond]
  split <;> omega

theorem ofInt_neg (a : Int) (h : -9223372036854775808 ≤ a ∧ a ≤ 9223372036854775807) : (BitVec.ofInt 64 a).msb = decide (a < 0) := by
  rw [BitVec.msb_eq_toInt, BitVec.toInt_ofInt_eq_self (by decide) (by simp; omega) (by simp; omega)]

theorem or_neg (a b : Int) (ha : -9223372036854775808 ≤ a ∧ a ≤ 9223372036854775807) (hb : -9223372036854775808 ≤ b ∧ b ≤ 9223372036854775807) :
    bits .or .i64 a b < 0 ↔ a < 0 ∨ b < 0 := by
  have e : (BitVec.ofInt 64 a ||| BitVec.ofInt 64 b).msb = decide (bits .or .i64 a b < 0) := by rw [BitVec.msb_eq_toInt, or_toInt]
  rw [BitVec.msb_or, ofInt_neg a ha, ofInt_neg b hb] at e
  have := e.symm
  simp only [← Bool.decide_or, decide_eq_decide] at this
  exact this

theorem or_range (a b : Int) : -9223372036854775808 ≤ bits .or .i64 a b ∧ bits .or .i64 a b ≤ 9223372036854775807 := by
  rw [or_toInt]
  have h1 := BitVec.le_toInt (BitVec.ofInt 64 a ||| BitVec.ofInt 64 b)
  have h2 := BitVec.toInt_lt (x := BitVec.ofInt 64 a ||| BitVec.ofInt 64 b)
  constructor
  · simpa using h1
  · have : (2 : Int) ^ (64 - 1) = 9223372036854775808 := by decide
    omega

theorem or_nn (a b : Int) (ha : -9223372036854775808 ≤ a ∧ a ≤ 9223372036854775807) (hb : -9223372036854775808 ≤ b ∧ b ≤ 9223372036854775807) :
    0 ≤ bits .or .i64 a b ↔ 0 ≤ a ∧ 0 ≤ b := by
  have := or_neg a b ha hb
  omega

/-! ### Where scan stands: i sums are behind it, g numbers lie ahead -/
structure At (w : World) (F R : List Int) (a : Option Addr) (g c i : Nat) : Prop where
  row : Row w a (F.drop (i * R.length))
  len : (F.drop (i * R.length)).length = g
  cap : g ≤ c
  max : c ≤ maxLen
  no : ∀ j, j < i → short F R j = false ∧ cov F R j = false

theorem At.start {w : World} {F R : List Int} {a : Option Addr} {g c : Nat} (hr : Row w a F) (hl : F.length = g) (hc : g ≤ c) (hm : c ≤ maxLen) : At w F R a g c 0 :=
  ⟨by simpa using hr, by simpa using hl, hc, hm, fun j h => absurd h (by omega)⟩

theorem At.eq {w : World} {F R : List Int} {a : Option Addr} {g c i : Nat} (h : At w F R a g c i) : F.length - i * R.length = g := by
  have := h.len
  simpa using this

theorem At.lt {w : World} {F R : List Int} {a : Option Addr} {g c i : Nat} (h : At w F R a g c i) (hR : 0 < R.length) (hg : R.length ≤ g) : i < num F R ∧ i < F.length := by
  have e := h.eq
  have h1 : (i + 1) * R.length ≤ F.length := by rw [Nat.succ_mul]; omega
  refine ⟨?_, ?_⟩
  · unfold num
    exact (Nat.le_div_iff_mul_le hR).2 h1
  · have : (i + 1) * 1 ≤ (i + 1) * R.length := Nat.mul_le_mul_left _ hR
    omega

theorem At.get {w : World} {F R : List Int} {a : Option Addr} {g c i : Nat} (_h : At w F R a g c i) (t : Nat) : (F.drop (i * R.length)).getD t 0 = F.getD (i * R.length + t) 0 := by
  simp

theorem At.short {w : World} {F R : List Int} {a : Option Addr} {g c i : Nat} (h : At w F R a g c i) (hR : 0 < R.length) (hg : R.length ≤ g) (hs : (F.drop (i * R.length)).getD 0 0 < R.getD 0 0) : ans F R = (false, i + 1) := by
  refine ans_short F R i (h.lt hR hg).1 h.no ?_
  rw [short_iff]
  rw [h.get] at hs
  simpa using hs

theorem At.cov {w : World} {F R : List Int} {a : Option Addr} {g c i : Nat} (h : At w F R a g c i) (hR : 0 < R.length) (hg : R.length ≤ g) (hs : ∀ t, t < R.length → R.getD t 0 ≤ (F.drop (i * R.length)).getD t 0) : ans F R = (true, i + 1) := by
  have hc : Sc.cov F R i = true := (cov_iff F R i).2 fun t ht => by rw [← h.get]; exact hs t ht
  exact ans_cov F R i (h.lt hR hg).1 h.no (cov_short F R i hR hc) hc

theorem At.stop {w : World} {F R : List Int} {a : Option Addr} {g c i : Nat} (h : At w F R a g c i) (hR : 0 < R.length) (hg : g < R.length) : ans F R = (false, num F R) ∧ (i * R.length ≤ F.length → num F R = i) := by
  have e := h.eq
  have hn : num F R ≤ i := by
    unfold num
    apply Nat.le_of_lt_succ
    rw [Nat.div_lt_iff_lt_mul hR, Nat.succ_mul]
    omega
  refine ⟨ans_end F R fun j hj => h.no j (by omega), fun hle => ?_⟩
  have : i ≤ num F R := by unfold num; exact (Nat.le_div_iff_mul_le hR).2 hle
  omega

theorem At.next {w : World} {F R : List Int} {a : Option Addr} {g c i : Nat} (h : At w F R a g c i) (hR : 0 < R.length) (hg : R.length ≤ g) (hs : R.getD 0 0 ≤ (F.drop (i * R.length)).getD 0 0)
    (t : Nat) (ht : t < R.length) (hc : (F.drop (i * R.length)).getD t 0 < R.getD t 0) (a' : Option Addr) (ha : R.length < c → a' = a.map (·.add R.length)) :
    At w F R a' (g - R.length) (c - R.length) (i + 1) ∧ (i + 1) * R.length ≤ F.length := by
  have e := h.eq
  have e1 : (i + 1) * R.length = i * R.length + R.length := Nat.succ_mul _ _
  refine ⟨⟨?_, ?_, by have := h.cap; omega, by have := h.max; omega, fun j hj => ?_⟩, by omega⟩
  · rcases h.row with hn | ⟨b, off, rfl, hb, hcell⟩
    · have := h.len; rw [hn] at this; simp at this; omega
    · by_cases hz : g = R.length
      · left
        apply List.drop_eq_nil_of_le
        omega
      · right
        have hcc := h.cap
        refine ⟨b, off + R.length, by rw [ha (by omega)]; simp [WideShapes.add_plain], hb, fun j hj => ?_⟩
        have hl := h.len
        have hj2 : R.length + j < (F.drop (i * R.length)).length := by simp at hj ⊢; omega
        have := hcell (R.length + j) hj2
        rw [← Nat.add_assoc] at this
        rw [this, e1]
        simp [Nat.add_assoc]
  · rw [e1]; simp; omega
  · by_cases ej : j = i
    · subst ej
      refine ⟨?_, ?_⟩
      · rw [short_no]; rw [h.get] at hs; simpa using hs
      · refine cov_no F R j t ht ?_
        rw [h.get] at hc; exact hc
    · exact h.no j (by omega)

/-- No number below 0, each an int64. -/
def Nn (xs : List Int) : Prop := ∀ j, 0 ≤ xs.getD j 0 ∧ xs.getD j 0 ≤ 9223372036854775807

theorem Nn.drop {xs : List Int} (h : Nn xs) (k : Nat) : Nn (xs.drop k) := fun j => by
  have := h (k + j)
  simpa using this

end Go.Proofs.Qxb6604293a.Sc
