/-
  No cell of these rows narrows 'for every input' (looked for: loops, veiled, ifaces, maps, wideKeys, modest, calm, conditions, laid).
  DERIVED. THE GIVEN ROWS OF THIS SEAT. 5 by the template 'for every input the law returns true; each argument reads behind the call as it read before'; 0 by the template 'total and deterministic' (their statements: Qxb6604293aTotals.lean).
  GIVEN WITH THE SEED: the statements are not yours to turn. If you find one false, say at which input.
  Laid BY PROGRAM, IN A SANDBOX (cutbox-rows.mjs): the forced cells as the released guide's own fill.sh prints them over the translation 0d58000460d42869… (all of the seat's roots in one cut). By AI agents, Wed Nov 11 2026. No macro, syntax, notation, axiom, sorry.
-/
import Derived.Test.Qxb6604293aChecked
import GoSem.Claim
import GoSem.ClaimJoined
import GoSem.ClaimMapViews
import Derived.JoinedTies
import Derived.KernelRfl
namespace Go.Proofs.Qxb6604293a
/- THE CELL 'sum', in the pinned program and in every row, IS THE sha256 OF THE DUMP (.gsa) THAT Qxb6604293aProg.lean LOADS. Nothing in Lean hashes anything: it is a label: what it is worth is what the hold of that sum in a sandbox is worth. -/
noncomputable def Try.pinned : Pinned := { name := "qxb6604293a", sum := "0d58000460d428695053d4905d196f88832da0964b142eae89669069ea150ef8", checked := Try.checked }
namespace Rows
def none {H : Type} : Left H := { results := [], args := [] }

/-- 'zzlaws_root_b1.FnScanExactSpec': WHATEVER THE INPUT: true; the input reads as it did. -/
def fnScanExactSpecSpec : ChangeSpec := { name := "fnScanExactSpec", fn := fun _ => fun
  | [d1, d2] => { results := [.lit (.bool true)], args := [d1, d2] }
  | _ => none }
def fnScanExactSpecRow : OpenClaim := { program := "qxb6604293a", sum := "0d58000460d428695053d4905d196f88832da0964b142eae89669069ea150ef8", func := "example.com/memledger/memledger/zzlaws_root_b1.FnScanExactSpec", spec := "fnScanExactSpec", apart := false }
def FnScanExactSpecSaid : Prop := fnScanExactSpecRow.holds Try.pinned (OpenSpec.ofChange fnScanExactSpecSpec)

/-- ITS FALSE NEIGHBOUR: 'it returns false'. Refute it at one input. -/
def fnScanExactSpecWrong : ChangeSpec := { name := "fnScanExactSpec", fn := fun _ => fun
  | [d1, d2] => { results := [.lit (.bool false)], args := [d1, d2] }
  | _ => none }
def FnScanExactSpecWrongFalsely : Prop := fnScanExactSpecRow.holds Try.pinned (OpenSpec.ofChange fnScanExactSpecWrong)

/-- 'zzlaws_root_b1.FnScanSoundOnSortedFront': WHATEVER THE INPUT: true; the input reads as it did. -/
def fnScanSoundOnSortedFrontSpec : ChangeSpec := { name := "fnScanSoundOnSortedFront", fn := fun _ => fun
  | [d1, d2] => { results := [.lit (.bool true)], args := [d1, d2] }
  | _ => none }
def fnScanSoundOnSortedFrontRow : OpenClaim := { program := "qxb6604293a", sum := "0d58000460d428695053d4905d196f88832da0964b142eae89669069ea150ef8", func := "example.com/memledger/memledger/zzlaws_root_b1.FnScanSoundOnSortedFront", spec := "fnScanSoundOnSortedFront", apart := false }
def FnScanSoundOnSortedFrontSaid : Prop := fnScanSoundOnSortedFrontRow.holds Try.pinned (OpenSpec.ofChange fnScanSoundOnSortedFrontSpec)

/-- ITS FALSE NEIGHBOUR: 'it returns false'. Refute it at one input. -/
def fnScanSoundOnSortedFrontWrong : ChangeSpec := { name := "fnScanSoundOnSortedFront", fn := fun _ => fun
  | [d1, d2] => { results := [.lit (.bool false)], args := [d1, d2] }
  | _ => none }
def FnScanSoundOnSortedFrontWrongFalsely : Prop := fnScanSoundOnSortedFrontRow.holds Try.pinned (OpenSpec.ofChange fnScanSoundOnSortedFrontWrong)

/-- 'zzlaws_root_b1.FnReachesExactSpec': WHATEVER THE INPUT: true; the input reads as it did. -/
def fnReachesExactSpecSpec : ChangeSpec := { name := "fnReachesExactSpec", fn := fun _ => fun
  | [d1, d2, d3, d4] => { results := [.lit (.bool true)], args := [d1, d2, d3, d4] }
  | _ => none }
def fnReachesExactSpecRow : OpenClaim := { program := "qxb6604293a", sum := "0d58000460d428695053d4905d196f88832da0964b142eae89669069ea150ef8", func := "example.com/memledger/memledger/zzlaws_root_b1.FnReachesExactSpec", spec := "fnReachesExactSpec", apart := false }
def FnReachesExactSpecSaid : Prop := fnReachesExactSpecRow.holds Try.pinned (OpenSpec.ofChange fnReachesExactSpecSpec)

/-- ITS FALSE NEIGHBOUR: 'it returns false'. Refute it at one input. -/
def fnReachesExactSpecWrong : ChangeSpec := { name := "fnReachesExactSpec", fn := fun _ => fun
  | [d1, d2, d3, d4] => { results := [.lit (.bool false)], args := [d1, d2, d3, d4] }
  | _ => none }
def FnReachesExactSpecWrongFalsely : Prop := fnReachesExactSpecRow.holds Try.pinned (OpenSpec.ofChange fnReachesExactSpecWrong)

/-- 'zzlaws_root_b1.FnStayedExactSpec': WHATEVER THE INPUT: true; the input reads as it did. -/
def fnStayedExactSpecSpec : ChangeSpec := { name := "fnStayedExactSpec", fn := fun _ => fun
  | [d1, d2] => { results := [.lit (.bool true)], args := [d1, d2] }
  | _ => none }
def fnStayedExactSpecRow : OpenClaim := { program := "qxb6604293a", sum := "0d58000460d428695053d4905d196f88832da0964b142eae89669069ea150ef8", func := "example.com/memledger/memledger/zzlaws_root_b1.FnStayedExactSpec", spec := "fnStayedExactSpec", apart := false }
def FnStayedExactSpecSaid : Prop := fnStayedExactSpecRow.holds Try.pinned (OpenSpec.ofChange fnStayedExactSpecSpec)

/-- ITS FALSE NEIGHBOUR: 'it returns false'. Refute it at one input. -/
def fnStayedExactSpecWrong : ChangeSpec := { name := "fnStayedExactSpec", fn := fun _ => fun
  | [d1, d2] => { results := [.lit (.bool false)], args := [d1, d2] }
  | _ => none }
def FnStayedExactSpecWrongFalsely : Prop := fnStayedExactSpecRow.holds Try.pinned (OpenSpec.ofChange fnStayedExactSpecWrong)

/-- 'zzlaws_root_b1.FnStayedOrderedAndBounded': WHATEVER THE INPUT: true; the input reads as it did. -/
def fnStayedOrderedAndBoundedSpec : ChangeSpec := { name := "fnStayedOrderedAndBounded", fn := fun _ => fun
  | [d1, d2] => { results := [.lit (.bool true)], args := [d1, d2] }
  | _ => none }
def fnStayedOrderedAndBoundedRow : OpenClaim := { program := "qxb6604293a", sum := "0d58000460d428695053d4905d196f88832da0964b142eae89669069ea150ef8", func := "example.com/memledger/memledger/zzlaws_root_b1.FnStayedOrderedAndBounded", spec := "fnStayedOrderedAndBounded", apart := false }
def FnStayedOrderedAndBoundedSaid : Prop := fnStayedOrderedAndBoundedRow.holds Try.pinned (OpenSpec.ofChange fnStayedOrderedAndBoundedSpec)

/-- ITS FALSE NEIGHBOUR: 'it returns false'. Refute it at one input. -/
def fnStayedOrderedAndBoundedWrong : ChangeSpec := { name := "fnStayedOrderedAndBounded", fn := fun _ => fun
  | [d1, d2] => { results := [.lit (.bool false)], args := [d1, d2] }
  | _ => none }
def FnStayedOrderedAndBoundedWrongFalsely : Prop := fnStayedOrderedAndBoundedRow.holds Try.pinned (OpenSpec.ofChange fnStayedOrderedAndBoundedWrong)

end Rows
end Go.Proofs.Qxb6604293a
