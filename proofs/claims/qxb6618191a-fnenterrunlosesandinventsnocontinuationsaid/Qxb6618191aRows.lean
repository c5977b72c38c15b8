/-
  No cell of these rows narrows 'for every input' (looked for: loops, veiled, ifaces, maps, wideKeys, modest, calm, conditions, laid).
  DERIVED. THE GIVEN ROWS OF THIS SEAT. 3 by the template 'for every input the law returns true; each argument reads behind the call as it read before'; 0 by the template 'total and deterministic' (their statements: Qxb6618191aTotals.lean).
  GIVEN WITH THE SEED: the statements are not yours to turn. If you find one false, say at which input.
  Laid BY PROGRAM, IN A SANDBOX (cutbox-rows.mjs): the forced cells as the released guide's own fill.sh prints them over the translation 4756dbd1dcf2d83d… (all of the seat's roots in one cut). By AI agents, Wed Nov 11 2026. No macro, syntax, notation, axiom, sorry.
-/
import Derived.Test.Qxb6618191aChecked
import GoSem.Claim
import GoSem.ClaimJoined
import GoSem.ClaimMapViews
import Derived.JoinedTies
import Derived.KernelRfl
namespace Go.Proofs.Qxb6618191a
/- THE CELL 'sum', in the pinned program and in every row, IS THE sha256 OF THE DUMP (.gsa) THAT Qxb6618191aProg.lean LOADS. Nothing in Lean hashes anything: it is a label: what it is worth is what the hold of that sum in a sandbox is worth. -/
noncomputable def Try.pinned : Pinned := { name := "qxb6618191a", sum := "4756dbd1dcf2d83d01d3627e43a1ce455b43002d464858a8d0605ff94db18580", checked := Try.checked }
namespace Rows
def none {H : Type} : Left H := { results := [], args := [] }

/-- 'zzlaws_internal_ere_b1.FnDropEndsExactlyTheRunsThatEndBeforePos': WHATEVER THE INPUT: true; the input reads as it did. -/
def fnDropEndsExactlyTheRunsThatEndBeforePosSpec : ChangeSpec := { name := "fnDropEndsExactlyTheRunsThatEndBeforePos", fn := fun _ => fun
  | [d1, d2, d3, d4, d5, d6, d7, d8] => { results := [.lit (.bool true)], args := [d1, d2, d3, d4, d5, d6, d7, d8] }
  | _ => none }
def fnDropEndsExactlyTheRunsThatEndBeforePosRow : OpenClaim := { program := "qxb6618191a", sum := "4756dbd1dcf2d83d01d3627e43a1ce455b43002d464858a8d0605ff94db18580", func := "example.com/rakenne/rakenne/zzlaws_internal_ere_b1.FnDropEndsExactlyTheRunsThatEndBeforePos", spec := "fnDropEndsExactlyTheRunsThatEndBeforePos", apart := false }
def FnDropEndsExactlyTheRunsThatEndBeforePosSaid : Prop := fnDropEndsExactlyTheRunsThatEndBeforePosRow.holds Try.pinned (OpenSpec.ofChange fnDropEndsExactlyTheRunsThatEndBeforePosSpec)

/-- ITS FALSE NEIGHBOUR: 'it returns false'. Refute it at one input. -/
def fnDropEndsExactlyTheRunsThatEndBeforePosWrong : ChangeSpec := { name := "fnDropEndsExactlyTheRunsThatEndBeforePos", fn := fun _ => fun
  | [d1, d2, d3, d4, d5, d6, d7, d8] => { results := [.lit (.bool false)], args := [d1, d2, d3, d4, d5, d6, d7, d8] }
  | _ => none }
def FnDropEndsExactlyTheRunsThatEndBeforePosWrongFalsely : Prop := fnDropEndsExactlyTheRunsThatEndBeforePosRow.holds Try.pinned (OpenSpec.ofChange fnDropEndsExactlyTheRunsThatEndBeforePosWrong)

/-- 'zzlaws_internal_ere_b1.FnEnterRunLosesAndInventsNoContinuation': WHATEVER THE INPUT: true; the input reads as it did. -/
def fnEnterRunLosesAndInventsNoContinuationSpec : ChangeSpec := { name := "fnEnterRunLosesAndInventsNoContinuation", fn := fun _ => fun
  | [d1, d2, d3, d4, d5, d6, d7, d8, d9, d10] => { results := [.lit (.bool true)], args := [d1, d2, d3, d4, d5, d6, d7, d8, d9, d10] }
  | _ => none }
def fnEnterRunLosesAndInventsNoContinuationRow : OpenClaim := { program := "qxb6618191a", sum := "4756dbd1dcf2d83d01d3627e43a1ce455b43002d464858a8d0605ff94db18580", func := "example.com/rakenne/rakenne/zzlaws_internal_ere_b1.FnEnterRunLosesAndInventsNoContinuation", spec := "fnEnterRunLosesAndInventsNoContinuation", apart := false }
def FnEnterRunLosesAndInventsNoContinuationSaid : Prop := fnEnterRunLosesAndInventsNoContinuationRow.holds Try.pinned (OpenSpec.ofChange fnEnterRunLosesAndInventsNoContinuationSpec)

/-- ITS FALSE NEIGHBOUR: 'it returns false'. Refute it at one input. -/
def fnEnterRunLosesAndInventsNoContinuationWrong : ChangeSpec := { name := "fnEnterRunLosesAndInventsNoContinuation", fn := fun _ => fun
  | [d1, d2, d3, d4, d5, d6, d7, d8, d9, d10] => { results := [.lit (.bool false)], args := [d1, d2, d3, d4, d5, d6, d7, d8, d9, d10] }
  | _ => none }
def FnEnterRunLosesAndInventsNoContinuationWrongFalsely : Prop := fnEnterRunLosesAndInventsNoContinuationRow.holds Try.pinned (OpenSpec.ofChange fnEnterRunLosesAndInventsNoContinuationWrong)

/-- 'zzlaws_internal_ere_b1.FnDropTwiceIsDropAtTheLaterPos': WHATEVER THE INPUT: true; the input reads as it did. -/
def fnDropTwiceIsDropAtTheLaterPosSpec : ChangeSpec := { name := "fnDropTwiceIsDropAtTheLaterPos", fn := fun _ => fun
  | [d1, d2, d3, d4, d5, d6, d7, d8, d9] => { results := [.lit (.bool true)], args := [d1, d2, d3, d4, d5, d6, d7, d8, d9] }
  | _ => none }
def fnDropTwiceIsDropAtTheLaterPosRow : OpenClaim := { program := "qxb6618191a", sum := "4756dbd1dcf2d83d01d3627e43a1ce455b43002d464858a8d0605ff94db18580", func := "example.com/rakenne/rakenne/zzlaws_internal_ere_b1.FnDropTwiceIsDropAtTheLaterPos", spec := "fnDropTwiceIsDropAtTheLaterPos", apart := false }
def FnDropTwiceIsDropAtTheLaterPosSaid : Prop := fnDropTwiceIsDropAtTheLaterPosRow.holds Try.pinned (OpenSpec.ofChange fnDropTwiceIsDropAtTheLaterPosSpec)

/-- ITS FALSE NEIGHBOUR: 'it returns false'. Refute it at one input. -/
def fnDropTwiceIsDropAtTheLaterPosWrong : ChangeSpec := { name := "fnDropTwiceIsDropAtTheLaterPos", fn := fun _ => fun
  | [d1, d2, d3, d4, d5, d6, d7, d8, d9] => { results := [.lit (.bool false)], args := [d1, d2, d3, d4, d5, d6, d7, d8, d9] }
  | _ => none }
def FnDropTwiceIsDropAtTheLaterPosWrongFalsely : Prop := fnDropTwiceIsDropAtTheLaterPosRow.holds Try.pinned (OpenSpec.ofChange fnDropTwiceIsDropAtTheLaterPosWrong)

end Rows
end Go.Proofs.Qxb6618191a
