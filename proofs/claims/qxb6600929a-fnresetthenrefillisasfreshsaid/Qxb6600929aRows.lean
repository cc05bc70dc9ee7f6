/-
  No cell of these rows narrows 'for every input' (looked for: loops, veiled, ifaces, maps, wideKeys, modest, calm, conditions, laid).
  DERIVED. THE GIVEN ROWS OF THIS SEAT. 5 by the template 'for every input the law returns true; each argument reads behind the call as it read before'; 0 by the template 'total and deterministic' (their statements: Qxb6600929aTotals.lean).
  GIVEN WITH THE SEED: the statements are not yours to turn. If you find one false, say at which input.
  Laid BY PROGRAM, IN A SANDBOX (cutbox-rows.mjs): the forced cells as the released guide's own fill.sh prints them over the translation 1c4502b52bdf957c… (all of the seat's roots in one cut). By AI agents, Wed Nov 11 2026. No macro, syntax, notation, axiom, sorry.
-/
import Derived.Test.Qxb6600929aChecked
import GoSem.Claim
import GoSem.ClaimJoined
import GoSem.ClaimMapViews
import Derived.JoinedTies
import Derived.KernelRfl
namespace Go.Proofs.Qxb6600929a
/- THE CELL 'sum', in the pinned program and in every row, IS THE sha256 OF THE DUMP (.gsa) THAT Qxb6600929aProg.lean LOADS. Nothing in Lean hashes anything: it is a label: what it is worth is what the hold of that sum in a sandbox is worth. -/
noncomputable def Try.pinned : Pinned := { name := "qxb6600929a", sum := "1c4502b52bdf957c3775e767912f2ba01715932695ae695f64a4c326a6d443ac", checked := Try.checked }
namespace Rows
def none {H : Type} : Left H := { results := [], args := [] }

/-- 'zzlaws_internal_meter_b1.FnSumIsTotalOfAdded': WHATEVER THE INPUT: true; the input reads as it did. -/
def fnSumIsTotalOfAddedSpec : ChangeSpec := { name := "fnSumIsTotalOfAdded", fn := fun _ => fun
  | [d] => { results := [.lit (.bool true)], args := [d] }
  | _ => none }
def fnSumIsTotalOfAddedRow : OpenClaim := { program := "qxb6600929a", sum := "1c4502b52bdf957c3775e767912f2ba01715932695ae695f64a4c326a6d443ac", func := "example.com/pathgauge/pathgauge/zzlaws_internal_meter_b1.FnSumIsTotalOfAdded", spec := "fnSumIsTotalOfAdded", apart := false }
def FnSumIsTotalOfAddedSaid : Prop := fnSumIsTotalOfAddedRow.holds Try.pinned (OpenSpec.ofChange fnSumIsTotalOfAddedSpec)

/-- ITS FALSE NEIGHBOUR: 'it returns false'. Refute it at one input. -/
def fnSumIsTotalOfAddedWrong : ChangeSpec := { name := "fnSumIsTotalOfAdded", fn := fun _ => fun
  | [d] => { results := [.lit (.bool false)], args := [d] }
  | _ => none }
def FnSumIsTotalOfAddedWrongFalsely : Prop := fnSumIsTotalOfAddedRow.holds Try.pinned (OpenSpec.ofChange fnSumIsTotalOfAddedWrong)

/-- 'zzlaws_internal_meter_b1.FnChunksDoubleUpToMax': WHATEVER THE INPUT: true; the input reads as it did. -/
def fnChunksDoubleUpToMaxSpec : ChangeSpec := { name := "fnChunksDoubleUpToMax", fn := fun _ => fun
  | [d] => { results := [.lit (.bool true)], args := [d] }
  | _ => none }
def fnChunksDoubleUpToMaxRow : OpenClaim := { program := "qxb6600929a", sum := "1c4502b52bdf957c3775e767912f2ba01715932695ae695f64a4c326a6d443ac", func := "example.com/pathgauge/pathgauge/zzlaws_internal_meter_b1.FnChunksDoubleUpToMax", spec := "fnChunksDoubleUpToMax", apart := false }
def FnChunksDoubleUpToMaxSaid : Prop := fnChunksDoubleUpToMaxRow.holds Try.pinned (OpenSpec.ofChange fnChunksDoubleUpToMaxSpec)

/-- ITS FALSE NEIGHBOUR: 'it returns false'. Refute it at one input. -/
def fnChunksDoubleUpToMaxWrong : ChangeSpec := { name := "fnChunksDoubleUpToMax", fn := fun _ => fun
  | [d] => { results := [.lit (.bool false)], args := [d] }
  | _ => none }
def FnChunksDoubleUpToMaxWrongFalsely : Prop := fnChunksDoubleUpToMaxRow.holds Try.pinned (OpenSpec.ofChange fnChunksDoubleUpToMaxWrong)

/-- 'zzlaws_internal_meter_b1.FnNextChunkKeepsOrderWhereverCut': WHATEVER THE INPUT: true; the input reads as it did. -/
def fnNextChunkKeepsOrderWhereverCutSpec : ChangeSpec := { name := "fnNextChunkKeepsOrderWhereverCut", fn := fun _ => fun
  | [d1, d2] => { results := [.lit (.bool true)], args := [d1, d2] }
  | _ => none }
def fnNextChunkKeepsOrderWhereverCutRow : OpenClaim := { program := "qxb6600929a", sum := "1c4502b52bdf957c3775e767912f2ba01715932695ae695f64a4c326a6d443ac", func := "example.com/pathgauge/pathgauge/zzlaws_internal_meter_b1.FnNextChunkKeepsOrderWhereverCut", spec := "fnNextChunkKeepsOrderWhereverCut", apart := false }
def FnNextChunkKeepsOrderWhereverCutSaid : Prop := fnNextChunkKeepsOrderWhereverCutRow.holds Try.pinned (OpenSpec.ofChange fnNextChunkKeepsOrderWhereverCutSpec)

/-- ITS FALSE NEIGHBOUR: 'it returns false'. Refute it at one input. -/
def fnNextChunkKeepsOrderWhereverCutWrong : ChangeSpec := { name := "fnNextChunkKeepsOrderWhereverCut", fn := fun _ => fun
  | [d1, d2] => { results := [.lit (.bool false)], args := [d1, d2] }
  | _ => none }
def FnNextChunkKeepsOrderWhereverCutWrongFalsely : Prop := fnNextChunkKeepsOrderWhereverCutRow.holds Try.pinned (OpenSpec.ofChange fnNextChunkKeepsOrderWhereverCutWrong)

/-- 'zzlaws_internal_meter_b1.FnResetThenRefillIsAsFresh': WHATEVER THE INPUT: true; the input reads as it did. -/
def fnResetThenRefillIsAsFreshSpec : ChangeSpec := { name := "fnResetThenRefillIsAsFresh", fn := fun _ => fun
  | [d1, d2] => { results := [.lit (.bool true)], args := [d1, d2] }
  | _ => none }
def fnResetThenRefillIsAsFreshRow : OpenClaim := { program := "qxb6600929a", sum := "1c4502b52bdf957c3775e767912f2ba01715932695ae695f64a4c326a6d443ac", func := "example.com/pathgauge/pathgauge/zzlaws_internal_meter_b1.FnResetThenRefillIsAsFresh", spec := "fnResetThenRefillIsAsFresh", apart := false }
def FnResetThenRefillIsAsFreshSaid : Prop := fnResetThenRefillIsAsFreshRow.holds Try.pinned (OpenSpec.ofChange fnResetThenRefillIsAsFreshSpec)

/-- ITS FALSE NEIGHBOUR: 'it returns false'. Refute it at one input. -/
def fnResetThenRefillIsAsFreshWrong : ChangeSpec := { name := "fnResetThenRefillIsAsFresh", fn := fun _ => fun
  | [d1, d2] => { results := [.lit (.bool false)], args := [d1, d2] }
  | _ => none }
def FnResetThenRefillIsAsFreshWrongFalsely : Prop := fnResetThenRefillIsAsFreshRow.holds Try.pinned (OpenSpec.ofChange fnResetThenRefillIsAsFreshWrong)

/-- 'zzlaws_internal_meter_b1.FnResetIsIdempotent': WHATEVER THE INPUT: true; the input reads as it did. -/
def fnResetIsIdempotentSpec : ChangeSpec := { name := "fnResetIsIdempotent", fn := fun _ => fun
  | [d] => { results := [.lit (.bool true)], args := [d] }
  | _ => none }
def fnResetIsIdempotentRow : OpenClaim := { program := "qxb6600929a", sum := "1c4502b52bdf957c3775e767912f2ba01715932695ae695f64a4c326a6d443ac", func := "example.com/pathgauge/pathgauge/zzlaws_internal_meter_b1.FnResetIsIdempotent", spec := "fnResetIsIdempotent", apart := false }
def FnResetIsIdempotentSaid : Prop := fnResetIsIdempotentRow.holds Try.pinned (OpenSpec.ofChange fnResetIsIdempotentSpec)

/-- ITS FALSE NEIGHBOUR: 'it returns false'. Refute it at one input. -/
def fnResetIsIdempotentWrong : ChangeSpec := { name := "fnResetIsIdempotent", fn := fun _ => fun
  | [d] => { results := [.lit (.bool false)], args := [d] }
  | _ => none }
def FnResetIsIdempotentWrongFalsely : Prop := fnResetIsIdempotentRow.holds Try.pinned (OpenSpec.ofChange fnResetIsIdempotentWrong)

end Rows
end Go.Proofs.Qxb6600929a
