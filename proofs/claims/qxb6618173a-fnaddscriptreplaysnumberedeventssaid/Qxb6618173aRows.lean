/-
  No cell of these rows narrows 'for every input' (looked for: loops, veiled, ifaces, maps, wideKeys, modest, calm, conditions, laid).
  DERIVED. THE GIVEN ROWS OF THIS SEAT. 3 by the template 'for every input the law returns true; each argument reads behind the call as it read before'; 0 by the template 'total and deterministic' (their statements: Qxb6618173aTotals.lean).
  GIVEN WITH THE SEED: the statements are not yours to turn. If you find one false, say at which input.
  Laid BY PROGRAM, IN A SANDBOX (cutbox-rows.mjs): the forced cells as the released guide's own fill.sh prints them over the translation aa3226ccb139ab63… (all of the seat's roots in one cut). By AI agents, Wed Nov 11 2026. No macro, syntax, notation, axiom, sorry.
-/
import Derived.Test.Qxb6618173aChecked
import GoSem.Claim
import GoSem.ClaimJoined
import GoSem.ClaimMapViews
import Derived.JoinedTies
import Derived.KernelRfl
namespace Go.Proofs.Qxb6618173a
/- THE CELL 'sum', in the pinned program and in every row, IS THE sha256 OF THE DUMP (.gsa) THAT Qxb6618173aProg.lean LOADS. Nothing in Lean hashes anything: it is a label: what it is worth is what the hold of that sum in a sandbox is worth. -/
noncomputable def Try.pinned : Pinned := { name := "qxb6618173a", sum := "aa3226ccb139ab63ff76e58554d6d8de0b4eaef36a81f6f3569013685da784f5", checked := Try.checked }
namespace Rows
def none {H : Type} : Left H := { results := [], args := [] }

/-- 'zzlaws_pkg_hub_b1.FnAddKeepsLongestFittingSuffix': WHATEVER THE INPUT: true; the input reads as it did. -/
def fnAddKeepsLongestFittingSuffixSpec : ChangeSpec := { name := "fnAddKeepsLongestFittingSuffix", fn := fun _ => fun
  | [d1, d2, d3, d4, d5] => { results := [.lit (.bool true)], args := [d1, d2, d3, d4, d5] }
  | _ => none }
def fnAddKeepsLongestFittingSuffixRow : OpenClaim := { program := "qxb6618173a", sum := "aa3226ccb139ab63ff76e58554d6d8de0b4eaef36a81f6f3569013685da784f5", func := "example.com/pulsewire/pulsewire/zzlaws_pkg_hub_b1.FnAddKeepsLongestFittingSuffix", spec := "fnAddKeepsLongestFittingSuffix", apart := false }
def FnAddKeepsLongestFittingSuffixSaid : Prop := fnAddKeepsLongestFittingSuffixRow.holds Try.pinned (OpenSpec.ofChange fnAddKeepsLongestFittingSuffixSpec)

/-- ITS FALSE NEIGHBOUR: 'it returns false'. Refute it at one input. -/
def fnAddKeepsLongestFittingSuffixWrong : ChangeSpec := { name := "fnAddKeepsLongestFittingSuffix", fn := fun _ => fun
  | [d1, d2, d3, d4, d5] => { results := [.lit (.bool false)], args := [d1, d2, d3, d4, d5] }
  | _ => none }
def FnAddKeepsLongestFittingSuffixWrongFalsely : Prop := fnAddKeepsLongestFittingSuffixRow.holds Try.pinned (OpenSpec.ofChange fnAddKeepsLongestFittingSuffixWrong)

/-- 'zzlaws_pkg_hub_b1.FnAfterReplaysLatestHeld': WHATEVER THE INPUT: true; the input reads as it did. -/
def fnAfterReplaysLatestHeldSpec : ChangeSpec := { name := "fnAfterReplaysLatestHeld", fn := fun _ => fun
  | [d1, d2, d3, d4] => { results := [.lit (.bool true)], args := [d1, d2, d3, d4] }
  | _ => none }
def fnAfterReplaysLatestHeldRow : OpenClaim := { program := "qxb6618173a", sum := "aa3226ccb139ab63ff76e58554d6d8de0b4eaef36a81f6f3569013685da784f5", func := "example.com/pulsewire/pulsewire/zzlaws_pkg_hub_b1.FnAfterReplaysLatestHeld", spec := "fnAfterReplaysLatestHeld", apart := false }
def FnAfterReplaysLatestHeldSaid : Prop := fnAfterReplaysLatestHeldRow.holds Try.pinned (OpenSpec.ofChange fnAfterReplaysLatestHeldSpec)

/-- ITS FALSE NEIGHBOUR: 'it returns false'. Refute it at one input. -/
def fnAfterReplaysLatestHeldWrong : ChangeSpec := { name := "fnAfterReplaysLatestHeld", fn := fun _ => fun
  | [d1, d2, d3, d4] => { results := [.lit (.bool false)], args := [d1, d2, d3, d4] }
  | _ => none }
def FnAfterReplaysLatestHeldWrongFalsely : Prop := fnAfterReplaysLatestHeldRow.holds Try.pinned (OpenSpec.ofChange fnAfterReplaysLatestHeldWrong)

/-- 'zzlaws_pkg_hub_b1.FnAddScriptReplaysNumberedEvents': WHATEVER THE INPUT: true; the input reads as it did. -/
def fnAddScriptReplaysNumberedEventsSpec : ChangeSpec := { name := "fnAddScriptReplaysNumberedEvents", fn := fun _ => fun
  | [d1, d2, d3, d4] => { results := [.lit (.bool true)], args := [d1, d2, d3, d4] }
  | _ => none }
def fnAddScriptReplaysNumberedEventsRow : OpenClaim := { program := "qxb6618173a", sum := "aa3226ccb139ab63ff76e58554d6d8de0b4eaef36a81f6f3569013685da784f5", func := "example.com/pulsewire/pulsewire/zzlaws_pkg_hub_b1.FnAddScriptReplaysNumberedEvents", spec := "fnAddScriptReplaysNumberedEvents", apart := false }
def FnAddScriptReplaysNumberedEventsSaid : Prop := fnAddScriptReplaysNumberedEventsRow.holds Try.pinned (OpenSpec.ofChange fnAddScriptReplaysNumberedEventsSpec)

/-- ITS FALSE NEIGHBOUR: 'it returns false'. Refute it at one input. -/
def fnAddScriptReplaysNumberedEventsWrong : ChangeSpec := { name := "fnAddScriptReplaysNumberedEvents", fn := fun _ => fun
  | [d1, d2, d3, d4] => { results := [.lit (.bool false)], args := [d1, d2, d3, d4] }
  | _ => none }
def FnAddScriptReplaysNumberedEventsWrongFalsely : Prop := fnAddScriptReplaysNumberedEventsRow.holds Try.pinned (OpenSpec.ofChange fnAddScriptReplaysNumberedEventsWrong)

end Rows
end Go.Proofs.Qxb6618173a
