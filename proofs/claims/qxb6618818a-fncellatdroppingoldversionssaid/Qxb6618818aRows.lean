/-
  No cell of these rows narrows 'for every input' (looked for: loops, veiled, ifaces, maps, wideKeys, modest, calm, conditions, laid).
  DERIVED. THE GIVEN ROWS OF THIS SEAT. 3 by the template 'for every input the law returns true; each argument reads behind the call as it read before'; 0 by the template 'total and deterministic' (their statements: Qxb6618818aTotals.lean).
  GIVEN WITH THE SEED: the statements are not yours to turn. If you find one false, say at which input.
  Laid BY PROGRAM, IN A SANDBOX (cutbox-rows.mjs): the forced cells as the released guide's own fill.sh prints them over the translation c90057b9c0ff3696… (all of the seat's roots in one cut). By AI agents, Wed Nov 11 2026. No macro, syntax, notation, axiom, sorry.
-/
import Derived.Test.Qxb6618818aChecked
import GoSem.Claim
import GoSem.ClaimJoined
import GoSem.ClaimMapViews
import Derived.JoinedTies
import Derived.KernelRfl
namespace Go.Proofs.Qxb6618818a
/- THE CELL 'sum', in the pinned program and in every row, IS THE sha256 OF THE DUMP (.gsa) THAT Qxb6618818aProg.lean LOADS. Nothing in Lean hashes anything: it is a label: what it is worth is what the hold of that sum in a sandbox is worth. -/
noncomputable def Try.pinned : Pinned := { name := "qxb6618818a", sum := "c90057b9c0ff369656f26610018ad294d661a55b0b7a1d7206ae16e8f55fa895", checked := Try.checked }
namespace Rows
def none {H : Type} : Left H := { results := [], args := [] }

/-- 'zzlaws_internal_mvstm_b1.FnBeginAheadFreezesItsStart': WHATEVER THE INPUT: true; the input reads as it did. -/
def fnBeginAheadFreezesItsStartSpec : ChangeSpec := { name := "fnBeginAheadFreezesItsStart", fn := fun _ => fun
  | [d1, d2] => { results := [.lit (.bool true)], args := [d1, d2] }
  | _ => none }
def fnBeginAheadFreezesItsStartRow : OpenClaim := { program := "qxb6618818a", sum := "c90057b9c0ff369656f26610018ad294d661a55b0b7a1d7206ae16e8f55fa895", func := "example.com/leasehold/leasehold/zzlaws_internal_mvstm_b1.FnBeginAheadFreezesItsStart", spec := "fnBeginAheadFreezesItsStart", inPlace := ["sync/atomic.StoreUint64", "sync/atomic.LoadUint64"], apart := false }
def FnBeginAheadFreezesItsStartSaid : Prop := fnBeginAheadFreezesItsStartRow.holds Try.pinned (OpenSpec.ofChange fnBeginAheadFreezesItsStartSpec)

/-- ITS FALSE NEIGHBOUR: 'it returns false'. Refute it at one input. -/
def fnBeginAheadFreezesItsStartWrong : ChangeSpec := { name := "fnBeginAheadFreezesItsStart", fn := fun _ => fun
  | [d1, d2] => { results := [.lit (.bool false)], args := [d1, d2] }
  | _ => none }
def FnBeginAheadFreezesItsStartWrongFalsely : Prop := fnBeginAheadFreezesItsStartRow.holds Try.pinned (OpenSpec.ofChange fnBeginAheadFreezesItsStartWrong)

/-- 'zzlaws_internal_mvstm_b1.FnCellAtNewestAtOrBefore': WHATEVER THE INPUT: true; the input reads as it did. -/
def fnCellAtNewestAtOrBeforeSpec : ChangeSpec := { name := "fnCellAtNewestAtOrBefore", fn := fun _ => fun
  | [d1, d2] => { results := [.lit (.bool true)], args := [d1, d2] }
  | _ => none }
def fnCellAtNewestAtOrBeforeRow : OpenClaim := { program := "qxb6618818a", sum := "c90057b9c0ff369656f26610018ad294d661a55b0b7a1d7206ae16e8f55fa895", func := "example.com/leasehold/leasehold/zzlaws_internal_mvstm_b1.FnCellAtNewestAtOrBefore", spec := "fnCellAtNewestAtOrBefore", inPlace := ["sync/atomic.StorePointer", "sync/atomic.LoadPointer"], apart := false }
def FnCellAtNewestAtOrBeforeSaid : Prop := fnCellAtNewestAtOrBeforeRow.holds Try.pinned (OpenSpec.ofChange fnCellAtNewestAtOrBeforeSpec)

/-- ITS FALSE NEIGHBOUR: 'it returns false'. Refute it at one input. -/
def fnCellAtNewestAtOrBeforeWrong : ChangeSpec := { name := "fnCellAtNewestAtOrBefore", fn := fun _ => fun
  | [d1, d2] => { results := [.lit (.bool false)], args := [d1, d2] }
  | _ => none }
def FnCellAtNewestAtOrBeforeWrongFalsely : Prop := fnCellAtNewestAtOrBeforeRow.holds Try.pinned (OpenSpec.ofChange fnCellAtNewestAtOrBeforeWrong)

/-- 'zzlaws_internal_mvstm_b1.FnCellAtDroppingOldVersions': WHATEVER THE INPUT: true; the input reads as it did. -/
def fnCellAtDroppingOldVersionsSpec : ChangeSpec := { name := "fnCellAtDroppingOldVersions", fn := fun _ => fun
  | [d1, d2, d3] => { results := [.lit (.bool true)], args := [d1, d2, d3] }
  | _ => none }
def fnCellAtDroppingOldVersionsRow : OpenClaim := { program := "qxb6618818a", sum := "c90057b9c0ff369656f26610018ad294d661a55b0b7a1d7206ae16e8f55fa895", func := "example.com/leasehold/leasehold/zzlaws_internal_mvstm_b1.FnCellAtDroppingOldVersions", spec := "fnCellAtDroppingOldVersions", inPlace := ["sync/atomic.StorePointer", "sync/atomic.LoadPointer"], apart := false }
def FnCellAtDroppingOldVersionsSaid : Prop := fnCellAtDroppingOldVersionsRow.holds Try.pinned (OpenSpec.ofChange fnCellAtDroppingOldVersionsSpec)

/-- ITS FALSE NEIGHBOUR: 'it returns false'. Refute it at one input. -/
def fnCellAtDroppingOldVersionsWrong : ChangeSpec := { name := "fnCellAtDroppingOldVersions", fn := fun _ => fun
  | [d1, d2, d3] => { results := [.lit (.bool false)], args := [d1, d2, d3] }
  | _ => none }
def FnCellAtDroppingOldVersionsWrongFalsely : Prop := fnCellAtDroppingOldVersionsRow.holds Try.pinned (OpenSpec.ofChange fnCellAtDroppingOldVersionsWrong)

end Rows
end Go.Proofs.Qxb6618818a
