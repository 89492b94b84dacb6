/-
  No cell of these rows narrows 'for every input' (looked for: loops, veiled, ifaces, maps, wideKeys, modest, calm, conditions, laid).
  DERIVED. THE GIVEN ROWS OF THIS SEAT. 6 by the template 'for every input the law returns true; each argument reads behind the call as it read before'; 0 by the template 'total and deterministic' (their statements: Qxb6600149aTotals.lean).
  GIVEN WITH THE SEED: the statements are not yours to turn. If you find one false, say at which input.
  Laid BY PROGRAM, IN A SANDBOX (cutbox-rows.mjs): the forced cells as the released guide's own fill.sh prints them over the translation 76eda24752c3dd3f… (all of the seat's roots in one cut). By AI agents, Wed Nov 11 2026. No macro, syntax, notation, axiom, sorry.
-/
import Derived.Test.Qxb6600149aChecked
import GoSem.Claim
import GoSem.ClaimJoined
import GoSem.ClaimMapViews
import Derived.JoinedTies
import Derived.KernelRfl
namespace Go.Proofs.Qxb6600149a
/- THE CELL 'sum', in the pinned program and in every row, IS THE sha256 OF THE DUMP (.gsa) THAT Qxb6600149aProg.lean LOADS. Nothing in Lean hashes anything: it is a label: what it is worth is what the hold of that sum in a sandbox is worth. -/
noncomputable def Try.pinned : Pinned := { name := "qxb6600149a", sum := "76eda24752c3dd3f459a47d35775fdb4f7f00cace33dc38b85c6ae3218141ffc", checked := Try.checked }
namespace Rows
def none {H : Type} : Left H := { results := [], args := [] }

/-- 'zzlaws_root_b1.FnTxFreeBlockMatchesLinearScan': WHATEVER THE INPUT: true; the input reads as it did. -/
def fnTxFreeBlockMatchesLinearScanSpec : ChangeSpec := { name := "fnTxFreeBlockMatchesLinearScan", fn := fun _ => fun
  | [d1, d2] => { results := [.lit (.bool true)], args := [d1, d2] }
  | _ => none }
def fnTxFreeBlockMatchesLinearScanRow : OpenClaim := { program := "qxb6600149a", sum := "76eda24752c3dd3f459a47d35775fdb4f7f00cace33dc38b85c6ae3218141ffc", func := "example.com/pagewarden/pagewarden/zzlaws_root_b1.FnTxFreeBlockMatchesLinearScan", spec := "fnTxFreeBlockMatchesLinearScan", apart := false }
def FnTxFreeBlockMatchesLinearScanSaid : Prop := fnTxFreeBlockMatchesLinearScanRow.holds Try.pinned (OpenSpec.ofChange fnTxFreeBlockMatchesLinearScanSpec)

/-- ITS FALSE NEIGHBOUR: 'it returns false'. Refute it at one input. -/
def fnTxFreeBlockMatchesLinearScanWrong : ChangeSpec := { name := "fnTxFreeBlockMatchesLinearScan", fn := fun _ => fun
  | [d1, d2] => { results := [.lit (.bool false)], args := [d1, d2] }
  | _ => none }
def FnTxFreeBlockMatchesLinearScanWrongFalsely : Prop := fnTxFreeBlockMatchesLinearScanRow.holds Try.pinned (OpenSpec.ofChange fnTxFreeBlockMatchesLinearScanWrong)

/-- 'zzlaws_root_b1.FnTxFreeBlockFindsEveryView': WHATEVER THE INPUT: true; the input reads as it did. -/
def fnTxFreeBlockFindsEveryViewSpec : ChangeSpec := { name := "fnTxFreeBlockFindsEveryView", fn := fun _ => fun
  | [d] => { results := [.lit (.bool true)], args := [d] }
  | _ => none }
def fnTxFreeBlockFindsEveryViewRow : OpenClaim := { program := "qxb6600149a", sum := "76eda24752c3dd3f459a47d35775fdb4f7f00cace33dc38b85c6ae3218141ffc", func := "example.com/pagewarden/pagewarden/zzlaws_root_b1.FnTxFreeBlockFindsEveryView", spec := "fnTxFreeBlockFindsEveryView", apart := false }
def FnTxFreeBlockFindsEveryViewSaid : Prop := fnTxFreeBlockFindsEveryViewRow.holds Try.pinned (OpenSpec.ofChange fnTxFreeBlockFindsEveryViewSpec)

/-- ITS FALSE NEIGHBOUR: 'it returns false'. Refute it at one input. -/
def fnTxFreeBlockFindsEveryViewWrong : ChangeSpec := { name := "fnTxFreeBlockFindsEveryView", fn := fun _ => fun
  | [d] => { results := [.lit (.bool false)], args := [d] }
  | _ => none }
def FnTxFreeBlockFindsEveryViewWrongFalsely : Prop := fnTxFreeBlockFindsEveryViewRow.holds Try.pinned (OpenSpec.ofChange fnTxFreeBlockFindsEveryViewWrong)

/-- 'zzlaws_root_b1.FnTxFreeBlockMonotone': WHATEVER THE INPUT: true; the input reads as it did. -/
def fnTxFreeBlockMonotoneSpec : ChangeSpec := { name := "fnTxFreeBlockMonotone", fn := fun _ => fun
  | [d1, d2, d3] => { results := [.lit (.bool true)], args := [d1, d2, d3] }
  | _ => none }
def fnTxFreeBlockMonotoneRow : OpenClaim := { program := "qxb6600149a", sum := "76eda24752c3dd3f459a47d35775fdb4f7f00cace33dc38b85c6ae3218141ffc", func := "example.com/pagewarden/pagewarden/zzlaws_root_b1.FnTxFreeBlockMonotone", spec := "fnTxFreeBlockMonotone", apart := false }
def FnTxFreeBlockMonotoneSaid : Prop := fnTxFreeBlockMonotoneRow.holds Try.pinned (OpenSpec.ofChange fnTxFreeBlockMonotoneSpec)

/-- ITS FALSE NEIGHBOUR: 'it returns false'. Refute it at one input. -/
def fnTxFreeBlockMonotoneWrong : ChangeSpec := { name := "fnTxFreeBlockMonotone", fn := fun _ => fun
  | [d1, d2, d3] => { results := [.lit (.bool false)], args := [d1, d2, d3] }
  | _ => none }
def FnTxFreeBlockMonotoneWrongFalsely : Prop := fnTxFreeBlockMonotoneRow.holds Try.pinned (OpenSpec.ofChange fnTxFreeBlockMonotoneWrong)

/-- 'zzlaws_root_b1.FnStoreFreeSetKeepsBlockMaxima': WHATEVER THE INPUT: true; the input reads as it did. -/
def fnStoreFreeSetKeepsBlockMaximaSpec : ChangeSpec := { name := "fnStoreFreeSetKeepsBlockMaxima", fn := fun _ => fun
  | [d1, d2] => { results := [.lit (.bool true)], args := [d1, d2] }
  | _ => none }
def fnStoreFreeSetKeepsBlockMaximaRow : OpenClaim := { program := "qxb6600149a", sum := "76eda24752c3dd3f459a47d35775fdb4f7f00cace33dc38b85c6ae3218141ffc", func := "example.com/pagewarden/pagewarden/zzlaws_root_b1.FnStoreFreeSetKeepsBlockMaxima", spec := "fnStoreFreeSetKeepsBlockMaxima", apart := false }
def FnStoreFreeSetKeepsBlockMaximaSaid : Prop := fnStoreFreeSetKeepsBlockMaximaRow.holds Try.pinned (OpenSpec.ofChange fnStoreFreeSetKeepsBlockMaximaSpec)

/-- ITS FALSE NEIGHBOUR: 'it returns false'. Refute it at one input. -/
def fnStoreFreeSetKeepsBlockMaximaWrong : ChangeSpec := { name := "fnStoreFreeSetKeepsBlockMaxima", fn := fun _ => fun
  | [d1, d2] => { results := [.lit (.bool false)], args := [d1, d2] }
  | _ => none }
def FnStoreFreeSetKeepsBlockMaximaWrongFalsely : Prop := fnStoreFreeSetKeepsBlockMaximaRow.holds Try.pinned (OpenSpec.ofChange fnStoreFreeSetKeepsBlockMaximaWrong)

/-- 'zzlaws_root_b1.FnStoreFreeSetMatchesLastWriteModel': WHATEVER THE INPUT: true; the input reads as it did. -/
def fnStoreFreeSetMatchesLastWriteModelSpec : ChangeSpec := { name := "fnStoreFreeSetMatchesLastWriteModel", fn := fun _ => fun
  | [d1, d2] => { results := [.lit (.bool true)], args := [d1, d2] }
  | _ => none }
def fnStoreFreeSetMatchesLastWriteModelRow : OpenClaim := { program := "qxb6600149a", sum := "76eda24752c3dd3f459a47d35775fdb4f7f00cace33dc38b85c6ae3218141ffc", func := "example.com/pagewarden/pagewarden/zzlaws_root_b1.FnStoreFreeSetMatchesLastWriteModel", spec := "fnStoreFreeSetMatchesLastWriteModel", apart := false }
def FnStoreFreeSetMatchesLastWriteModelSaid : Prop := fnStoreFreeSetMatchesLastWriteModelRow.holds Try.pinned (OpenSpec.ofChange fnStoreFreeSetMatchesLastWriteModelSpec)

/-- ITS FALSE NEIGHBOUR: 'it returns false'. Refute it at one input. -/
def fnStoreFreeSetMatchesLastWriteModelWrong : ChangeSpec := { name := "fnStoreFreeSetMatchesLastWriteModel", fn := fun _ => fun
  | [d1, d2] => { results := [.lit (.bool false)], args := [d1, d2] }
  | _ => none }
def FnStoreFreeSetMatchesLastWriteModelWrongFalsely : Prop := fnStoreFreeSetMatchesLastWriteModelRow.holds Try.pinned (OpenSpec.ofChange fnStoreFreeSetMatchesLastWriteModelWrong)

/-- 'zzlaws_root_b1.FnStoreFreeSetRepeatChangesNoFigure': WHATEVER THE INPUT: true; the input reads as it did. -/
def fnStoreFreeSetRepeatChangesNoFigureSpec : ChangeSpec := { name := "fnStoreFreeSetRepeatChangesNoFigure", fn := fun _ => fun
  | [d1, d2, d3, d4] => { results := [.lit (.bool true)], args := [d1, d2, d3, d4] }
  | _ => none }
def fnStoreFreeSetRepeatChangesNoFigureRow : OpenClaim := { program := "qxb6600149a", sum := "76eda24752c3dd3f459a47d35775fdb4f7f00cace33dc38b85c6ae3218141ffc", func := "example.com/pagewarden/pagewarden/zzlaws_root_b1.FnStoreFreeSetRepeatChangesNoFigure", spec := "fnStoreFreeSetRepeatChangesNoFigure", apart := false }
def FnStoreFreeSetRepeatChangesNoFigureSaid : Prop := fnStoreFreeSetRepeatChangesNoFigureRow.holds Try.pinned (OpenSpec.ofChange fnStoreFreeSetRepeatChangesNoFigureSpec)

/-- ITS FALSE NEIGHBOUR: 'it returns false'. Refute it at one input. -/
def fnStoreFreeSetRepeatChangesNoFigureWrong : ChangeSpec := { name := "fnStoreFreeSetRepeatChangesNoFigure", fn := fun _ => fun
  | [d1, d2, d3, d4] => { results := [.lit (.bool false)], args := [d1, d2, d3, d4] }
  | _ => none }
def FnStoreFreeSetRepeatChangesNoFigureWrongFalsely : Prop := fnStoreFreeSetRepeatChangesNoFigureRow.holds Try.pinned (OpenSpec.ofChange fnStoreFreeSetRepeatChangesNoFigureWrong)

end Rows
end Go.Proofs.Qxb6600149a
