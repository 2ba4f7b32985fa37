/-
  No cell of these rows narrows 'for every input' (looked for: loops, veiled, ifaces, maps, wideKeys, modest, calm, conditions, laid).
  DERIVED. THE GIVEN ROWS OF THIS SEAT. 2 by the template 'for every input the law returns true; each argument reads behind the call as it read before'; 0 by the template 'total and deterministic' (their statements: Qxb6602666aTotals.lean).
  GIVEN WITH THE SEED: the statements are not yours to turn. If you find one false, say at which input.
  Laid BY PROGRAM, IN A SANDBOX (cutbox-rows.mjs): the forced cells as the released guide's own fill.sh prints them over the translation 91b65b6d2d7cab41… (all of the seat's roots in one cut). By AI agents, Wed Nov 11 2026. No macro, syntax, notation, axiom, sorry.
-/
import Derived.Test.Qxb6602666aChecked
import GoSem.Claim
import GoSem.ClaimJoined
import GoSem.ClaimMapViews
import Derived.JoinedTies
import Derived.KernelRfl
namespace Go.Proofs.Qxb6602666a
/- THE CELL 'sum', in the pinned program and in every row, IS THE sha256 OF THE DUMP (.gsa) THAT Qxb6602666aProg.lean LOADS. Nothing in Lean hashes anything: it is a label: what it is worth is what the hold of that sum in a sandbox is worth. -/
noncomputable def Try.pinned : Pinned := { name := "qxb6602666a", sum := "91b65b6d2d7cab41cac7405c708024ca1d9bee31d15db08ee2ac1d50eb446481", checked := Try.checked }
namespace Rows
def none {H : Type} : Left H := { results := [], args := [] }

/-- 'zzlaws_root_b1.FnAllDigitsExactlyNonEmptyDecimal': WHATEVER THE INPUT: true; the input reads as it did. -/
def fnAllDigitsExactlyNonEmptyDecimalSpec : ChangeSpec := { name := "fnAllDigitsExactlyNonEmptyDecimal", fn := fun _ => fun
  | [d] => { results := [.lit (.bool true)], args := [d] }
  | _ => none }
def fnAllDigitsExactlyNonEmptyDecimalRow : OpenClaim := { program := "qxb6602666a", sum := "91b65b6d2d7cab41cac7405c708024ca1d9bee31d15db08ee2ac1d50eb446481", func := "example.com/markvane/markvane/zzlaws_root_b1.FnAllDigitsExactlyNonEmptyDecimal", spec := "fnAllDigitsExactlyNonEmptyDecimal", apart := false }
def FnAllDigitsExactlyNonEmptyDecimalSaid : Prop := fnAllDigitsExactlyNonEmptyDecimalRow.holds Try.pinned (OpenSpec.ofChange fnAllDigitsExactlyNonEmptyDecimalSpec)

/-- ITS FALSE NEIGHBOUR: 'it returns false'. Refute it at one input. -/
def fnAllDigitsExactlyNonEmptyDecimalWrong : ChangeSpec := { name := "fnAllDigitsExactlyNonEmptyDecimal", fn := fun _ => fun
  | [d] => { results := [.lit (.bool false)], args := [d] }
  | _ => none }
def FnAllDigitsExactlyNonEmptyDecimalWrongFalsely : Prop := fnAllDigitsExactlyNonEmptyDecimalRow.holds Try.pinned (OpenSpec.ofChange fnAllDigitsExactlyNonEmptyDecimalWrong)

/-- 'zzlaws_root_b1.FnAllDigitsConcatenation': WHATEVER THE INPUT: true; the input reads as it did. -/
def fnAllDigitsConcatenationSpec : ChangeSpec := { name := "fnAllDigitsConcatenation", fn := fun _ => fun
  | [d1, d2] => { results := [.lit (.bool true)], args := [d1, d2] }
  | _ => none }
def fnAllDigitsConcatenationRow : OpenClaim := { program := "qxb6602666a", sum := "91b65b6d2d7cab41cac7405c708024ca1d9bee31d15db08ee2ac1d50eb446481", func := "example.com/markvane/markvane/zzlaws_root_b1.FnAllDigitsConcatenation", spec := "fnAllDigitsConcatenation", apart := false }
def FnAllDigitsConcatenationSaid : Prop := fnAllDigitsConcatenationRow.holds Try.pinned (OpenSpec.ofChange fnAllDigitsConcatenationSpec)

/-- ITS FALSE NEIGHBOUR: 'it returns false'. Refute it at one input. -/
def fnAllDigitsConcatenationWrong : ChangeSpec := { name := "fnAllDigitsConcatenation", fn := fun _ => fun
  | [d1, d2] => { results := [.lit (.bool false)], args := [d1, d2] }
  | _ => none }
def FnAllDigitsConcatenationWrongFalsely : Prop := fnAllDigitsConcatenationRow.holds Try.pinned (OpenSpec.ofChange fnAllDigitsConcatenationWrong)

end Rows
end Go.Proofs.Qxb6602666a
