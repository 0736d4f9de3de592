/-
  No cell of these rows narrows 'for every input' (looked for: loops, veiled, ifaces, maps, wideKeys, modest, calm, conditions, laid).
  DERIVED. THE GIVEN ROWS OF THIS SEAT. 6 by the template 'for every input the law returns true; each argument reads behind the call as it read before'; 0 by the template 'total and deterministic' (their statements: Qxb6602932aTotals.lean).
  GIVEN WITH THE SEED: the statements are not yours to turn. If you find one false, say at which input.
  Laid BY PROGRAM, IN A SANDBOX (cutbox-rows.mjs): the forced cells as the released guide's own fill.sh prints them over the translation 5a8e36977920b51c… (all of the seat's roots in one cut). By AI agents, Wed Nov 11 2026. No macro, syntax, notation, axiom, sorry.
-/
import Derived.Test.Qxb6602932aChecked
import GoSem.Claim
import GoSem.ClaimJoined
import GoSem.ClaimMapViews
import Derived.JoinedTies
import Derived.KernelRfl
namespace Go.Proofs.Qxb6602932a
/- THE CELL 'sum', in the pinned program and in every row, IS THE sha256 OF THE DUMP (.gsa) THAT Qxb6602932aProg.lean LOADS. Nothing in Lean hashes anything: it is a label: what it is worth is what the hold of that sum in a sandbox is worth. -/
noncomputable def Try.pinned : Pinned := { name := "qxb6602932a", sum := "5a8e36977920b51c6e82c1931cd777c9e354fc3a34a65f4a4162f095e759f63d", checked := Try.checked }
namespace Rows
def none {H : Type} : Left H := { results := [], args := [] }

/-- 'zzlaws_internal_csvfile_b1.FnFilledLinesMatchesModel': WHATEVER THE INPUT: true; the input reads as it did. -/
def fnFilledLinesMatchesModelSpec : ChangeSpec := { name := "fnFilledLinesMatchesModel", fn := fun _ => fun
  | [d] => { results := [.lit (.bool true)], args := [d] }
  | _ => none }
def fnFilledLinesMatchesModelRow : OpenClaim := { program := "qxb6602932a", sum := "5a8e36977920b51c6e82c1931cd777c9e354fc3a34a65f4a4162f095e759f63d", func := "example.com/tuoguan/tuoguan/zzlaws_internal_csvfile_b1.FnFilledLinesMatchesModel", spec := "fnFilledLinesMatchesModel", inPlace := ["internal/bytealg.IndexByte"], apart := false }
def FnFilledLinesMatchesModelSaid : Prop := fnFilledLinesMatchesModelRow.holds Try.pinned (OpenSpec.ofChange fnFilledLinesMatchesModelSpec)

/-- ITS FALSE NEIGHBOUR: 'it returns false'. Refute it at one input. -/
def fnFilledLinesMatchesModelWrong : ChangeSpec := { name := "fnFilledLinesMatchesModel", fn := fun _ => fun
  | [d] => { results := [.lit (.bool false)], args := [d] }
  | _ => none }
def FnFilledLinesMatchesModelWrongFalsely : Prop := fnFilledLinesMatchesModelRow.holds Try.pinned (OpenSpec.ofChange fnFilledLinesMatchesModelWrong)

/-- 'zzlaws_internal_csvfile_b1.FnFilledLinesAddsOverWholeLines': WHATEVER THE INPUT: true; the input reads as it did. -/
def fnFilledLinesAddsOverWholeLinesSpec : ChangeSpec := { name := "fnFilledLinesAddsOverWholeLines", fn := fun _ => fun
  | [d1, d2] => { results := [.lit (.bool true)], args := [d1, d2] }
  | _ => none }
def fnFilledLinesAddsOverWholeLinesRow : OpenClaim := { program := "qxb6602932a", sum := "5a8e36977920b51c6e82c1931cd777c9e354fc3a34a65f4a4162f095e759f63d", func := "example.com/tuoguan/tuoguan/zzlaws_internal_csvfile_b1.FnFilledLinesAddsOverWholeLines", spec := "fnFilledLinesAddsOverWholeLines", inPlace := ["internal/bytealg.IndexByte"], apart := false }
def FnFilledLinesAddsOverWholeLinesSaid : Prop := fnFilledLinesAddsOverWholeLinesRow.holds Try.pinned (OpenSpec.ofChange fnFilledLinesAddsOverWholeLinesSpec)

/-- ITS FALSE NEIGHBOUR: 'it returns false'. Refute it at one input. -/
def fnFilledLinesAddsOverWholeLinesWrong : ChangeSpec := { name := "fnFilledLinesAddsOverWholeLines", fn := fun _ => fun
  | [d1, d2] => { results := [.lit (.bool false)], args := [d1, d2] }
  | _ => none }
def FnFilledLinesAddsOverWholeLinesWrongFalsely : Prop := fnFilledLinesAddsOverWholeLinesRow.holds Try.pinned (OpenSpec.ofChange fnFilledLinesAddsOverWholeLinesWrong)

/-- 'zzlaws_internal_csvfile_b1.FnFilledLinesBounds': WHATEVER THE INPUT: true; the input reads as it did. -/
def fnFilledLinesBoundsSpec : ChangeSpec := { name := "fnFilledLinesBounds", fn := fun _ => fun
  | [d] => { results := [.lit (.bool true)], args := [d] }
  | _ => none }
def fnFilledLinesBoundsRow : OpenClaim := { program := "qxb6602932a", sum := "5a8e36977920b51c6e82c1931cd777c9e354fc3a34a65f4a4162f095e759f63d", func := "example.com/tuoguan/tuoguan/zzlaws_internal_csvfile_b1.FnFilledLinesBounds", spec := "fnFilledLinesBounds", inPlace := ["internal/bytealg.IndexByte"], apart := false }
def FnFilledLinesBoundsSaid : Prop := fnFilledLinesBoundsRow.holds Try.pinned (OpenSpec.ofChange fnFilledLinesBoundsSpec)

/-- ITS FALSE NEIGHBOUR: 'it returns false'. Refute it at one input. -/
def fnFilledLinesBoundsWrong : ChangeSpec := { name := "fnFilledLinesBounds", fn := fun _ => fun
  | [d] => { results := [.lit (.bool false)], args := [d] }
  | _ => none }
def FnFilledLinesBoundsWrongFalsely : Prop := fnFilledLinesBoundsRow.holds Try.pinned (OpenSpec.ofChange fnFilledLinesBoundsWrong)

/-- 'zzlaws_internal_csvfile_b1.FnBlockEndIsFirstLineEndPastBlockSize': WHATEVER THE INPUT: true; the input reads as it did. -/
def fnBlockEndIsFirstLineEndPastBlockSizeSpec : ChangeSpec := { name := "fnBlockEndIsFirstLineEndPastBlockSize", fn := fun _ => fun
  | [d1, d2, d3] => { results := [.lit (.bool true)], args := [d1, d2, d3] }
  | _ => none }
def fnBlockEndIsFirstLineEndPastBlockSizeRow : OpenClaim := { program := "qxb6602932a", sum := "5a8e36977920b51c6e82c1931cd777c9e354fc3a34a65f4a4162f095e759f63d", func := "example.com/tuoguan/tuoguan/zzlaws_internal_csvfile_b1.FnBlockEndIsFirstLineEndPastBlockSize", spec := "fnBlockEndIsFirstLineEndPastBlockSize", inPlace := ["internal/bytealg.IndexByte"], apart := false }
def FnBlockEndIsFirstLineEndPastBlockSizeSaid : Prop := fnBlockEndIsFirstLineEndPastBlockSizeRow.holds Try.pinned (OpenSpec.ofChange fnBlockEndIsFirstLineEndPastBlockSizeSpec)

/-- ITS FALSE NEIGHBOUR: 'it returns false'. Refute it at one input. -/
def fnBlockEndIsFirstLineEndPastBlockSizeWrong : ChangeSpec := { name := "fnBlockEndIsFirstLineEndPastBlockSize", fn := fun _ => fun
  | [d1, d2, d3] => { results := [.lit (.bool false)], args := [d1, d2, d3] }
  | _ => none }
def FnBlockEndIsFirstLineEndPastBlockSizeWrongFalsely : Prop := fnBlockEndIsFirstLineEndPastBlockSizeRow.holds Try.pinned (OpenSpec.ofChange fnBlockEndIsFirstLineEndPastBlockSizeWrong)

/-- 'zzlaws_internal_csvfile_b1.FnBlockEndGrowsWithBlockSize': WHATEVER THE INPUT: true; the input reads as it did. -/
def fnBlockEndGrowsWithBlockSizeSpec : ChangeSpec := { name := "fnBlockEndGrowsWithBlockSize", fn := fun _ => fun
  | [d1, d2, d3, d4] => { results := [.lit (.bool true)], args := [d1, d2, d3, d4] }
  | _ => none }
def fnBlockEndGrowsWithBlockSizeRow : OpenClaim := { program := "qxb6602932a", sum := "5a8e36977920b51c6e82c1931cd777c9e354fc3a34a65f4a4162f095e759f63d", func := "example.com/tuoguan/tuoguan/zzlaws_internal_csvfile_b1.FnBlockEndGrowsWithBlockSize", spec := "fnBlockEndGrowsWithBlockSize", inPlace := ["internal/bytealg.IndexByte"], apart := false }
def FnBlockEndGrowsWithBlockSizeSaid : Prop := fnBlockEndGrowsWithBlockSizeRow.holds Try.pinned (OpenSpec.ofChange fnBlockEndGrowsWithBlockSizeSpec)

/-- ITS FALSE NEIGHBOUR: 'it returns false'. Refute it at one input. -/
def fnBlockEndGrowsWithBlockSizeWrong : ChangeSpec := { name := "fnBlockEndGrowsWithBlockSize", fn := fun _ => fun
  | [d1, d2, d3, d4] => { results := [.lit (.bool false)], args := [d1, d2, d3, d4] }
  | _ => none }
def FnBlockEndGrowsWithBlockSizeWrongFalsely : Prop := fnBlockEndGrowsWithBlockSizeRow.holds Try.pinned (OpenSpec.ofChange fnBlockEndGrowsWithBlockSizeWrong)

/-- 'zzlaws_internal_csvfile_b1.FnBlockEndCutsFileIntoWholeLines': WHATEVER THE INPUT: true; the input reads as it did. -/
def fnBlockEndCutsFileIntoWholeLinesSpec : ChangeSpec := { name := "fnBlockEndCutsFileIntoWholeLines", fn := fun _ => fun
  | [d1, d2] => { results := [.lit (.bool true)], args := [d1, d2] }
  | _ => none }
def fnBlockEndCutsFileIntoWholeLinesRow : OpenClaim := { program := "qxb6602932a", sum := "5a8e36977920b51c6e82c1931cd777c9e354fc3a34a65f4a4162f095e759f63d", func := "example.com/tuoguan/tuoguan/zzlaws_internal_csvfile_b1.FnBlockEndCutsFileIntoWholeLines", spec := "fnBlockEndCutsFileIntoWholeLines", inPlace := ["internal/bytealg.IndexByte"], apart := false }
def FnBlockEndCutsFileIntoWholeLinesSaid : Prop := fnBlockEndCutsFileIntoWholeLinesRow.holds Try.pinned (OpenSpec.ofChange fnBlockEndCutsFileIntoWholeLinesSpec)

/-- ITS FALSE NEIGHBOUR: 'it returns false'. Refute it at one input. -/
def fnBlockEndCutsFileIntoWholeLinesWrong : ChangeSpec := { name := "fnBlockEndCutsFileIntoWholeLines", fn := fun _ => fun
  | [d1, d2] => { results := [.lit (.bool false)], args := [d1, d2] }
  | _ => none }
def FnBlockEndCutsFileIntoWholeLinesWrongFalsely : Prop := fnBlockEndCutsFileIntoWholeLinesRow.holds Try.pinned (OpenSpec.ofChange fnBlockEndCutsFileIntoWholeLinesWrong)

end Rows
end Go.Proofs.Qxb6602932a
