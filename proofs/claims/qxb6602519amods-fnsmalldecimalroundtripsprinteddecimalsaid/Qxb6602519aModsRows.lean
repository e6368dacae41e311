/-
  No cell of these rows narrows 'for every input' (looked for: loops, veiled, ifaces, maps, wideKeys, modest, calm, conditions, laid).
  DERIVED. THE GIVEN ROWS OF THIS SEAT. 4 by the template 'for every input the law returns true; each argument reads behind the call as it read before'; 0 by the template 'total and deterministic' (their statements: Qxb6602519aModsTotals.lean).
  GIVEN WITH THE SEED: the statements are not yours to turn. If you find one false, say at which input.
  Laid BY PROGRAM, IN A SANDBOX (cutbox-rows.mjs): the forced cells as the released guide's own fill.sh prints them over the translation a9935cb7c8b630bc… (all of the seat's roots in one cut). By AI agents, Wed Nov 11 2026. No macro, syntax, notation, axiom, sorry.
-/
import Derived.Test.Qxb6602519aModsChecked
import GoSem.Claim
import GoSem.ClaimJoined
import GoSem.ClaimMapViews
import Derived.JoinedTies
import Derived.KernelRfl
namespace Go.Proofs.Qxb6602519aMods
/- THE CELL 'sum', in the pinned program and in every row, IS THE sha256 OF THE DUMP (.gsa) THAT Qxb6602519aModsProg.lean LOADS. Nothing in Lean hashes anything: it is a label: what it is worth is what the hold of that sum in a sandbox is worth. -/
noncomputable def Trym.pinned : Pinned := { name := "qxb6602519amods", sum := "a9935cb7c8b630bce585b9c5fbdd622cea108407a2a1118c79ed45b73ff0f9c6", checked := Trym.checked }
namespace Rows
def none {H : Type} : Left H := { results := [], args := [] }

/-- 'zzlaws_root_b1.FnSmallDecimalMatchesSplitModel': WHATEVER THE INPUT: true; the input reads as it did. -/
def fnSmallDecimalMatchesSplitModelSpec : ChangeSpec := { name := "fnSmallDecimalMatchesSplitModel", fn := fun _ => fun
  | [d] => { results := [.lit (.bool true)], args := [d] }
  | _ => none }
def fnSmallDecimalMatchesSplitModelRow : OpenClaim := { program := "qxb6602519amods", sum := "a9935cb7c8b630bce585b9c5fbdd622cea108407a2a1118c79ed45b73ff0f9c6", func := "example.com/tuoguan-atlas/tuoguan-atlas/zzlaws_root_b1.FnSmallDecimalMatchesSplitModel", spec := "fnSmallDecimalMatchesSplitModel", make := .lifted ["publicsums"], apart := false }
def FnSmallDecimalMatchesSplitModelSaid : Prop := fnSmallDecimalMatchesSplitModelRow.holds Trym.pinned (OpenSpec.ofChange fnSmallDecimalMatchesSplitModelSpec)

/-- ITS FALSE NEIGHBOUR: 'it returns false'. Refute it at one input. -/
def fnSmallDecimalMatchesSplitModelWrong : ChangeSpec := { name := "fnSmallDecimalMatchesSplitModel", fn := fun _ => fun
  | [d] => { results := [.lit (.bool false)], args := [d] }
  | _ => none }
def FnSmallDecimalMatchesSplitModelWrongFalsely : Prop := fnSmallDecimalMatchesSplitModelRow.holds Trym.pinned (OpenSpec.ofChange fnSmallDecimalMatchesSplitModelWrong)

/-- 'zzlaws_root_b1.FnSmallDecimalRoundTripsPrintedDecimal': WHATEVER THE INPUT: true; the input reads as it did. -/
def fnSmallDecimalRoundTripsPrintedDecimalSpec : ChangeSpec := { name := "fnSmallDecimalRoundTripsPrintedDecimal", fn := fun _ => fun
  | [d1, d2, d3] => { results := [.lit (.bool true)], args := [d1, d2, d3] }
  | _ => none }
def fnSmallDecimalRoundTripsPrintedDecimalRow : OpenClaim := { program := "qxb6602519amods", sum := "a9935cb7c8b630bce585b9c5fbdd622cea108407a2a1118c79ed45b73ff0f9c6", func := "example.com/tuoguan-atlas/tuoguan-atlas/zzlaws_root_b1.FnSmallDecimalRoundTripsPrintedDecimal", spec := "fnSmallDecimalRoundTripsPrintedDecimal", make := .lifted ["publicsums"], apart := false }
def FnSmallDecimalRoundTripsPrintedDecimalSaid : Prop := fnSmallDecimalRoundTripsPrintedDecimalRow.holds Trym.pinned (OpenSpec.ofChange fnSmallDecimalRoundTripsPrintedDecimalSpec)

/-- ITS FALSE NEIGHBOUR: 'it returns false'. Refute it at one input. -/
def fnSmallDecimalRoundTripsPrintedDecimalWrong : ChangeSpec := { name := "fnSmallDecimalRoundTripsPrintedDecimal", fn := fun _ => fun
  | [d1, d2, d3] => { results := [.lit (.bool false)], args := [d1, d2, d3] }
  | _ => none }
def FnSmallDecimalRoundTripsPrintedDecimalWrongFalsely : Prop := fnSmallDecimalRoundTripsPrintedDecimalRow.holds Trym.pinned (OpenSpec.ofChange fnSmallDecimalRoundTripsPrintedDecimalWrong)

/-- 'zzlaws_root_b1.FnSmallDecimalIgnoresOneMinus': WHATEVER THE INPUT: true; the input reads as it did. -/
def fnSmallDecimalIgnoresOneMinusSpec : ChangeSpec := { name := "fnSmallDecimalIgnoresOneMinus", fn := fun _ => fun
  | [d] => { results := [.lit (.bool true)], args := [d] }
  | _ => none }
def fnSmallDecimalIgnoresOneMinusRow : OpenClaim := { program := "qxb6602519amods", sum := "a9935cb7c8b630bce585b9c5fbdd622cea108407a2a1118c79ed45b73ff0f9c6", func := "example.com/tuoguan-atlas/tuoguan-atlas/zzlaws_root_b1.FnSmallDecimalIgnoresOneMinus", spec := "fnSmallDecimalIgnoresOneMinus", make := .lifted ["publicsums"], apart := false }
def FnSmallDecimalIgnoresOneMinusSaid : Prop := fnSmallDecimalIgnoresOneMinusRow.holds Trym.pinned (OpenSpec.ofChange fnSmallDecimalIgnoresOneMinusSpec)

/-- ITS FALSE NEIGHBOUR: 'it returns false'. Refute it at one input. -/
def fnSmallDecimalIgnoresOneMinusWrong : ChangeSpec := { name := "fnSmallDecimalIgnoresOneMinus", fn := fun _ => fun
  | [d] => { results := [.lit (.bool false)], args := [d] }
  | _ => none }
def FnSmallDecimalIgnoresOneMinusWrongFalsely : Prop := fnSmallDecimalIgnoresOneMinusRow.holds Trym.pinned (OpenSpec.ofChange fnSmallDecimalIgnoresOneMinusWrong)

/-- 'zzlaws_root_b1.FnSmallDecimalResultBounds': WHATEVER THE INPUT: true; the input reads as it did. -/
def fnSmallDecimalResultBoundsSpec : ChangeSpec := { name := "fnSmallDecimalResultBounds", fn := fun _ => fun
  | [d] => { results := [.lit (.bool true)], args := [d] }
  | _ => none }
def fnSmallDecimalResultBoundsRow : OpenClaim := { program := "qxb6602519amods", sum := "a9935cb7c8b630bce585b9c5fbdd622cea108407a2a1118c79ed45b73ff0f9c6", func := "example.com/tuoguan-atlas/tuoguan-atlas/zzlaws_root_b1.FnSmallDecimalResultBounds", spec := "fnSmallDecimalResultBounds", make := .lifted ["publicsums"], apart := false }
def FnSmallDecimalResultBoundsSaid : Prop := fnSmallDecimalResultBoundsRow.holds Trym.pinned (OpenSpec.ofChange fnSmallDecimalResultBoundsSpec)

/-- ITS FALSE NEIGHBOUR: 'it returns false'. Refute it at one input. -/
def fnSmallDecimalResultBoundsWrong : ChangeSpec := { name := "fnSmallDecimalResultBounds", fn := fun _ => fun
  | [d] => { results := [.lit (.bool false)], args := [d] }
  | _ => none }
def FnSmallDecimalResultBoundsWrongFalsely : Prop := fnSmallDecimalResultBoundsRow.holds Trym.pinned (OpenSpec.ofChange fnSmallDecimalResultBoundsWrong)

end Rows
end Go.Proofs.Qxb6602519aMods
