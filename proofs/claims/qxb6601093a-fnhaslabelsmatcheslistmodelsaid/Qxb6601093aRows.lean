/-
  No cell of these rows narrows 'for every input' (looked for: loops, veiled, ifaces, maps, wideKeys, modest, calm, conditions, laid).
  DERIVED. THE GIVEN ROWS OF THIS SEAT. 7 by the template 'for every input the law returns true; each argument reads behind the call as it read before'; 0 by the template 'total and deterministic' (their statements: Qxb6601093aTotals.lean).
  GIVEN WITH THE SEED: the statements are not yours to turn. If you find one false, say at which input.
  Laid BY PROGRAM, IN A SANDBOX (cutbox-rows.mjs): the forced cells as the released guide's own fill.sh prints them over the translation f2ecbd09a4ba678c… (all of the seat's roots in one cut). By AI agents, Wed Nov 11 2026. No macro, syntax, notation, axiom, sorry.
-/
import Derived.Test.Qxb6601093aChecked
import GoSem.Claim
import GoSem.ClaimJoined
import GoSem.ClaimMapViews
import Derived.JoinedTies
import Derived.KernelRfl
namespace Go.Proofs.Qxb6601093a
/- THE CELL 'sum', in the pinned program and in every row, IS THE sha256 OF THE DUMP (.gsa) THAT Qxb6601093aProg.lean LOADS. Nothing in Lean hashes anything: it is a label: what it is worth is what the hold of that sum in a sandbox is worth. -/
noncomputable def Try.pinned : Pinned := { name := "qxb6601093a", sum := "f2ecbd09a4ba678c3f0026fa360ddf69e8519b6ac699321b61f72c2570e0f8a7", checked := Try.checked }
namespace Rows
def none {H : Type} : Left H := { results := [], args := [] }

/-- 'zzlaws_root_b1.FnHasLabelsMatchesListModel': WHATEVER THE INPUT: true; the input reads as it did. -/
def fnHasLabelsMatchesListModelSpec : ChangeSpec := { name := "fnHasLabelsMatchesListModel", fn := fun _ => fun
  | [d1, d2] => { results := [.lit (.bool true)], args := [d1, d2] }
  | _ => none }
def fnHasLabelsMatchesListModelRow : OpenClaim := { program := "qxb6601093a", sum := "f2ecbd09a4ba678c3f0026fa360ddf69e8519b6ac699321b61f72c2570e0f8a7", func := "example.com/omoide/omoide/zzlaws_root_b1.FnHasLabelsMatchesListModel", spec := "fnHasLabelsMatchesListModel", apart := false }
def FnHasLabelsMatchesListModelSaid : Prop := fnHasLabelsMatchesListModelRow.holds Try.pinned (OpenSpec.ofChange fnHasLabelsMatchesListModelSpec)

/-- ITS FALSE NEIGHBOUR: 'it returns false'. Refute it at one input. -/
def fnHasLabelsMatchesListModelWrong : ChangeSpec := { name := "fnHasLabelsMatchesListModel", fn := fun _ => fun
  | [d1, d2] => { results := [.lit (.bool false)], args := [d1, d2] }
  | _ => none }
def FnHasLabelsMatchesListModelWrongFalsely : Prop := fnHasLabelsMatchesListModelRow.holds Try.pinned (OpenSpec.ofChange fnHasLabelsMatchesListModelWrong)

/-- 'zzlaws_root_b1.FnHasLabelsIsTransitive': WHATEVER THE INPUT: true; the input reads as it did. -/
def fnHasLabelsIsTransitiveSpec : ChangeSpec := { name := "fnHasLabelsIsTransitive", fn := fun _ => fun
  | [d1, d2, d3] => { results := [.lit (.bool true)], args := [d1, d2, d3] }
  | _ => none }
def fnHasLabelsIsTransitiveRow : OpenClaim := { program := "qxb6601093a", sum := "f2ecbd09a4ba678c3f0026fa360ddf69e8519b6ac699321b61f72c2570e0f8a7", func := "example.com/omoide/omoide/zzlaws_root_b1.FnHasLabelsIsTransitive", spec := "fnHasLabelsIsTransitive", apart := false }
def FnHasLabelsIsTransitiveSaid : Prop := fnHasLabelsIsTransitiveRow.holds Try.pinned (OpenSpec.ofChange fnHasLabelsIsTransitiveSpec)

/-- ITS FALSE NEIGHBOUR: 'it returns false'. Refute it at one input. -/
def fnHasLabelsIsTransitiveWrong : ChangeSpec := { name := "fnHasLabelsIsTransitive", fn := fun _ => fun
  | [d1, d2, d3] => { results := [.lit (.bool false)], args := [d1, d2, d3] }
  | _ => none }
def FnHasLabelsIsTransitiveWrongFalsely : Prop := fnHasLabelsIsTransitiveRow.holds Try.pinned (OpenSpec.ofChange fnHasLabelsIsTransitiveWrong)

/-- 'zzlaws_root_b1.FnTurnNumberMatchesModel': WHATEVER THE INPUT: true; the input reads as it did. -/
def fnTurnNumberMatchesModelSpec : ChangeSpec := { name := "fnTurnNumberMatchesModel", fn := fun _ => fun
  | [d] => { results := [.lit (.bool true)], args := [d] }
  | _ => none }
def fnTurnNumberMatchesModelRow : OpenClaim := { program := "qxb6601093a", sum := "f2ecbd09a4ba678c3f0026fa360ddf69e8519b6ac699321b61f72c2570e0f8a7", func := "example.com/omoide/omoide/zzlaws_root_b1.FnTurnNumberMatchesModel", spec := "fnTurnNumberMatchesModel", apart := false }
def FnTurnNumberMatchesModelSaid : Prop := fnTurnNumberMatchesModelRow.holds Try.pinned (OpenSpec.ofChange fnTurnNumberMatchesModelSpec)

/-- ITS FALSE NEIGHBOUR: 'it returns false'. Refute it at one input. -/
def fnTurnNumberMatchesModelWrong : ChangeSpec := { name := "fnTurnNumberMatchesModel", fn := fun _ => fun
  | [d] => { results := [.lit (.bool false)], args := [d] }
  | _ => none }
def FnTurnNumberMatchesModelWrongFalsely : Prop := fnTurnNumberMatchesModelRow.holds Try.pinned (OpenSpec.ofChange fnTurnNumberMatchesModelWrong)

/-- 'zzlaws_root_b1.FnTurnNumberReadsBackEveryNumberedName': WHATEVER THE INPUT: true; the input reads as it did. -/
def fnTurnNumberReadsBackEveryNumberedNameSpec : ChangeSpec := { name := "fnTurnNumberReadsBackEveryNumberedName", fn := fun _ => fun
  | [d] => { results := [.lit (.bool true)], args := [d] }
  | _ => none }
def fnTurnNumberReadsBackEveryNumberedNameRow : OpenClaim := { program := "qxb6601093a", sum := "f2ecbd09a4ba678c3f0026fa360ddf69e8519b6ac699321b61f72c2570e0f8a7", func := "example.com/omoide/omoide/zzlaws_root_b1.FnTurnNumberReadsBackEveryNumberedName", spec := "fnTurnNumberReadsBackEveryNumberedName", apart := false }
def FnTurnNumberReadsBackEveryNumberedNameSaid : Prop := fnTurnNumberReadsBackEveryNumberedNameRow.holds Try.pinned (OpenSpec.ofChange fnTurnNumberReadsBackEveryNumberedNameSpec)

/-- ITS FALSE NEIGHBOUR: 'it returns false'. Refute it at one input. -/
def fnTurnNumberReadsBackEveryNumberedNameWrong : ChangeSpec := { name := "fnTurnNumberReadsBackEveryNumberedName", fn := fun _ => fun
  | [d] => { results := [.lit (.bool false)], args := [d] }
  | _ => none }
def FnTurnNumberReadsBackEveryNumberedNameWrongFalsely : Prop := fnTurnNumberReadsBackEveryNumberedNameRow.holds Try.pinned (OpenSpec.ofChange fnTurnNumberReadsBackEveryNumberedNameWrong)

/-- 'zzlaws_root_b1.FnTurnNumberAcceptsTheSuccessorOfWhatItAccepts': WHATEVER THE INPUT: true; the input reads as it did. -/
def fnTurnNumberAcceptsTheSuccessorOfWhatItAcceptsSpec : ChangeSpec := { name := "fnTurnNumberAcceptsTheSuccessorOfWhatItAccepts", fn := fun _ => fun
  | [d] => { results := [.lit (.bool true)], args := [d] }
  | _ => none }
def fnTurnNumberAcceptsTheSuccessorOfWhatItAcceptsRow : OpenClaim := { program := "qxb6601093a", sum := "f2ecbd09a4ba678c3f0026fa360ddf69e8519b6ac699321b61f72c2570e0f8a7", func := "example.com/omoide/omoide/zzlaws_root_b1.FnTurnNumberAcceptsTheSuccessorOfWhatItAccepts", spec := "fnTurnNumberAcceptsTheSuccessorOfWhatItAccepts", apart := false }
def FnTurnNumberAcceptsTheSuccessorOfWhatItAcceptsSaid : Prop := fnTurnNumberAcceptsTheSuccessorOfWhatItAcceptsRow.holds Try.pinned (OpenSpec.ofChange fnTurnNumberAcceptsTheSuccessorOfWhatItAcceptsSpec)

/-- ITS FALSE NEIGHBOUR: 'it returns false'. Refute it at one input. -/
def fnTurnNumberAcceptsTheSuccessorOfWhatItAcceptsWrong : ChangeSpec := { name := "fnTurnNumberAcceptsTheSuccessorOfWhatItAccepts", fn := fun _ => fun
  | [d] => { results := [.lit (.bool false)], args := [d] }
  | _ => none }
def FnTurnNumberAcceptsTheSuccessorOfWhatItAcceptsWrongFalsely : Prop := fnTurnNumberAcceptsTheSuccessorOfWhatItAcceptsRow.holds Try.pinned (OpenSpec.ofChange fnTurnNumberAcceptsTheSuccessorOfWhatItAcceptsWrong)

/-- 'zzlaws_root_b1.FnSuccAddsOneByColumnSubtraction': WHATEVER THE INPUT: true; the input reads as it did. -/
def fnSuccAddsOneByColumnSubtractionSpec : ChangeSpec := { name := "fnSuccAddsOneByColumnSubtraction", fn := fun _ => fun
  | [d] => { results := [.lit (.bool true)], args := [d] }
  | _ => none }
def fnSuccAddsOneByColumnSubtractionRow : OpenClaim := { program := "qxb6601093a", sum := "f2ecbd09a4ba678c3f0026fa360ddf69e8519b6ac699321b61f72c2570e0f8a7", func := "example.com/omoide/omoide/zzlaws_root_b1.FnSuccAddsOneByColumnSubtraction", spec := "fnSuccAddsOneByColumnSubtraction", apart := false }
def FnSuccAddsOneByColumnSubtractionSaid : Prop := fnSuccAddsOneByColumnSubtractionRow.holds Try.pinned (OpenSpec.ofChange fnSuccAddsOneByColumnSubtractionSpec)

/-- ITS FALSE NEIGHBOUR: 'it returns false'. Refute it at one input. -/
def fnSuccAddsOneByColumnSubtractionWrong : ChangeSpec := { name := "fnSuccAddsOneByColumnSubtraction", fn := fun _ => fun
  | [d] => { results := [.lit (.bool false)], args := [d] }
  | _ => none }
def FnSuccAddsOneByColumnSubtractionWrongFalsely : Prop := fnSuccAddsOneByColumnSubtractionRow.holds Try.pinned (OpenSpec.ofChange fnSuccAddsOneByColumnSubtractionWrong)

/-- 'zzlaws_root_b1.FnSuccAgreesWithMachineIncrement': WHATEVER THE INPUT: true; the input reads as it did. -/
def fnSuccAgreesWithMachineIncrementSpec : ChangeSpec := { name := "fnSuccAgreesWithMachineIncrement", fn := fun _ => fun
  | [d] => { results := [.lit (.bool true)], args := [d] }
  | _ => none }
def fnSuccAgreesWithMachineIncrementRow : OpenClaim := { program := "qxb6601093a", sum := "f2ecbd09a4ba678c3f0026fa360ddf69e8519b6ac699321b61f72c2570e0f8a7", func := "example.com/omoide/omoide/zzlaws_root_b1.FnSuccAgreesWithMachineIncrement", spec := "fnSuccAgreesWithMachineIncrement", apart := false }
def FnSuccAgreesWithMachineIncrementSaid : Prop := fnSuccAgreesWithMachineIncrementRow.holds Try.pinned (OpenSpec.ofChange fnSuccAgreesWithMachineIncrementSpec)

/-- ITS FALSE NEIGHBOUR: 'it returns false'. Refute it at one input. -/
def fnSuccAgreesWithMachineIncrementWrong : ChangeSpec := { name := "fnSuccAgreesWithMachineIncrement", fn := fun _ => fun
  | [d] => { results := [.lit (.bool false)], args := [d] }
  | _ => none }
def FnSuccAgreesWithMachineIncrementWrongFalsely : Prop := fnSuccAgreesWithMachineIncrementRow.holds Try.pinned (OpenSpec.ofChange fnSuccAgreesWithMachineIncrementWrong)

end Rows
end Go.Proofs.Qxb6601093a
