/-
  No cell of these rows narrows 'for every input' (looked for: loops, veiled, ifaces, maps, wideKeys, modest, calm, conditions, laid).
  DERIVED. THE GIVEN ROWS OF THIS SEAT. 5 by the template 'for every input the law returns true; each argument reads behind the call as it read before'; 0 by the template 'total and deterministic' (their statements: Qxb6000716aModsTotals.lean).
  GIVEN WITH THE SEED: the statements are not yours to turn. If you find one false, say at which input.
  Laid BY PROGRAM, IN A SANDBOX (cutbox-rows.mjs): the forced cells as the released guide's own fill.sh prints them over the translation 8ec20e82d47c0e92… (all of the seat's roots in one cut). By AI agents, Wed Nov 11 2026. No macro, syntax, notation, axiom, sorry.
-/
import Derived.Test.Qxb6000716aModsChecked
import GoSem.Claim
import GoSem.ClaimJoined
import GoSem.ClaimMapViews
import Derived.JoinedTies
import Derived.KernelRfl
namespace Go.Proofs.Qxb6000716aMods
/- THE CELL 'sum', in the pinned program and in every row, IS THE sha256 OF THE DUMP (.gsa) THAT Qxb6000716aModsProg.lean LOADS. Nothing in Lean hashes anything: it is a label: what it is worth is what the hold of that sum in a sandbox is worth. -/
noncomputable def Trym.pinned : Pinned := { name := "qxb6000716amods", sum := "8ec20e82d47c0e9218c5c0838436f7e2eef3f08c4eb10a3834aab1b36677092b", checked := Trym.checked }
namespace Rows
def none {H : Type} : Left H := { results := [], args := [] }

/-- 'zzlaws_internal_dpop_b1.FnP256DigitsRecomposeToScalar': WHATEVER THE INPUT: true; the input reads as it did. -/
def fnP256DigitsRecomposeToScalarSpec : ChangeSpec := { name := "fnP256DigitsRecomposeToScalar", fn := fun _ => fun
  | [d] => { results := [.lit (.bool true)], args := [d] }
  | _ => none }
def fnP256DigitsRecomposeToScalarRow : OpenClaim := { program := "qxb6000716amods", sum := "8ec20e82d47c0e9218c5c0838436f7e2eef3f08c4eb10a3834aab1b36677092b", func := "example.com/holdfast/holdfast/zzlaws_internal_dpop_b1.FnP256DigitsRecomposeToScalar", spec := "fnP256DigitsRecomposeToScalar", make := .lifted ["publicsums"], apart := false }
def FnP256DigitsRecomposeToScalarSaid : Prop := fnP256DigitsRecomposeToScalarRow.holds Trym.pinned (OpenSpec.ofChange fnP256DigitsRecomposeToScalarSpec)

/-- ITS FALSE NEIGHBOUR: 'it returns false'. Refute it at one input. -/
def fnP256DigitsRecomposeToScalarWrong : ChangeSpec := { name := "fnP256DigitsRecomposeToScalar", fn := fun _ => fun
  | [d] => { results := [.lit (.bool false)], args := [d] }
  | _ => none }
def FnP256DigitsRecomposeToScalarWrongFalsely : Prop := fnP256DigitsRecomposeToScalarRow.holds Trym.pinned (OpenSpec.ofChange fnP256DigitsRecomposeToScalarWrong)

/-- 'zzlaws_internal_dpop_b1.FnP256DigitsBounded': WHATEVER THE INPUT: true; the input reads as it did. -/
def fnP256DigitsBoundedSpec : ChangeSpec := { name := "fnP256DigitsBounded", fn := fun _ => fun
  | [d] => { results := [.lit (.bool true)], args := [d] }
  | _ => none }
def fnP256DigitsBoundedRow : OpenClaim := { program := "qxb6000716amods", sum := "8ec20e82d47c0e9218c5c0838436f7e2eef3f08c4eb10a3834aab1b36677092b", func := "example.com/holdfast/holdfast/zzlaws_internal_dpop_b1.FnP256DigitsBounded", spec := "fnP256DigitsBounded", make := .lifted ["publicsums"], apart := false }
def FnP256DigitsBoundedSaid : Prop := fnP256DigitsBoundedRow.holds Trym.pinned (OpenSpec.ofChange fnP256DigitsBoundedSpec)

/-- ITS FALSE NEIGHBOUR: 'it returns false'. Refute it at one input. -/
def fnP256DigitsBoundedWrong : ChangeSpec := { name := "fnP256DigitsBounded", fn := fun _ => fun
  | [d] => { results := [.lit (.bool false)], args := [d] }
  | _ => none }
def FnP256DigitsBoundedWrongFalsely : Prop := fnP256DigitsBoundedRow.holds Trym.pinned (OpenSpec.ofChange fnP256DigitsBoundedWrong)

/-- 'zzlaws_internal_dpop_b1.FnRemoveDotSegmentsMatchesStackModel': WHATEVER THE INPUT: true; the input reads as it did. -/
def fnRemoveDotSegmentsMatchesStackModelSpec : ChangeSpec := { name := "fnRemoveDotSegmentsMatchesStackModel", fn := fun _ => fun
  | [d] => { results := [.lit (.bool true)], args := [d] }
  | _ => none }
def fnRemoveDotSegmentsMatchesStackModelRow : OpenClaim := { program := "qxb6000716amods", sum := "8ec20e82d47c0e9218c5c0838436f7e2eef3f08c4eb10a3834aab1b36677092b", func := "example.com/holdfast/holdfast/zzlaws_internal_dpop_b1.FnRemoveDotSegmentsMatchesStackModel", spec := "fnRemoveDotSegmentsMatchesStackModel", inPlace := ["internal/bytealg.IndexByteString", "internal/abi.NoEscape", "internal/bytealg.MakeNoZero"], make := .lifted ["publicsums"], apart := false }
def FnRemoveDotSegmentsMatchesStackModelSaid : Prop := fnRemoveDotSegmentsMatchesStackModelRow.holds Trym.pinned (OpenSpec.ofChange fnRemoveDotSegmentsMatchesStackModelSpec)

/-- ITS FALSE NEIGHBOUR: 'it returns false'. Refute it at one input. -/
def fnRemoveDotSegmentsMatchesStackModelWrong : ChangeSpec := { name := "fnRemoveDotSegmentsMatchesStackModel", fn := fun _ => fun
  | [d] => { results := [.lit (.bool false)], args := [d] }
  | _ => none }
def FnRemoveDotSegmentsMatchesStackModelWrongFalsely : Prop := fnRemoveDotSegmentsMatchesStackModelRow.holds Trym.pinned (OpenSpec.ofChange fnRemoveDotSegmentsMatchesStackModelWrong)

/-- 'zzlaws_internal_dpop_b1.FnRemoveDotSegmentsIdempotent': WHATEVER THE INPUT: true; the input reads as it did. -/
def fnRemoveDotSegmentsIdempotentSpec : ChangeSpec := { name := "fnRemoveDotSegmentsIdempotent", fn := fun _ => fun
  | [d] => { results := [.lit (.bool true)], args := [d] }
  | _ => none }
def fnRemoveDotSegmentsIdempotentRow : OpenClaim := { program := "qxb6000716amods", sum := "8ec20e82d47c0e9218c5c0838436f7e2eef3f08c4eb10a3834aab1b36677092b", func := "example.com/holdfast/holdfast/zzlaws_internal_dpop_b1.FnRemoveDotSegmentsIdempotent", spec := "fnRemoveDotSegmentsIdempotent", inPlace := ["internal/bytealg.IndexByteString", "internal/abi.NoEscape", "internal/bytealg.MakeNoZero"], make := .lifted ["publicsums"], apart := false }
def FnRemoveDotSegmentsIdempotentSaid : Prop := fnRemoveDotSegmentsIdempotentRow.holds Trym.pinned (OpenSpec.ofChange fnRemoveDotSegmentsIdempotentSpec)

/-- ITS FALSE NEIGHBOUR: 'it returns false'. Refute it at one input. -/
def fnRemoveDotSegmentsIdempotentWrong : ChangeSpec := { name := "fnRemoveDotSegmentsIdempotent", fn := fun _ => fun
  | [d] => { results := [.lit (.bool false)], args := [d] }
  | _ => none }
def FnRemoveDotSegmentsIdempotentWrongFalsely : Prop := fnRemoveDotSegmentsIdempotentRow.holds Trym.pinned (OpenSpec.ofChange fnRemoveDotSegmentsIdempotentWrong)

/-- 'zzlaws_internal_dpop_b1.FnRemoveDotSegmentsLeavesNoDotSegments': WHATEVER THE INPUT: true; the input reads as it did. -/
def fnRemoveDotSegmentsLeavesNoDotSegmentsSpec : ChangeSpec := { name := "fnRemoveDotSegmentsLeavesNoDotSegments", fn := fun _ => fun
  | [d] => { results := [.lit (.bool true)], args := [d] }
  | _ => none }
def fnRemoveDotSegmentsLeavesNoDotSegmentsRow : OpenClaim := { program := "qxb6000716amods", sum := "8ec20e82d47c0e9218c5c0838436f7e2eef3f08c4eb10a3834aab1b36677092b", func := "example.com/holdfast/holdfast/zzlaws_internal_dpop_b1.FnRemoveDotSegmentsLeavesNoDotSegments", spec := "fnRemoveDotSegmentsLeavesNoDotSegments", inPlace := ["internal/bytealg.IndexByteString", "internal/abi.NoEscape", "internal/bytealg.MakeNoZero"], make := .lifted ["publicsums"], apart := false }
def FnRemoveDotSegmentsLeavesNoDotSegmentsSaid : Prop := fnRemoveDotSegmentsLeavesNoDotSegmentsRow.holds Trym.pinned (OpenSpec.ofChange fnRemoveDotSegmentsLeavesNoDotSegmentsSpec)

/-- ITS FALSE NEIGHBOUR: 'it returns false'. Refute it at one input. -/
def fnRemoveDotSegmentsLeavesNoDotSegmentsWrong : ChangeSpec := { name := "fnRemoveDotSegmentsLeavesNoDotSegments", fn := fun _ => fun
  | [d] => { results := [.lit (.bool false)], args := [d] }
  | _ => none }
def FnRemoveDotSegmentsLeavesNoDotSegmentsWrongFalsely : Prop := fnRemoveDotSegmentsLeavesNoDotSegmentsRow.holds Trym.pinned (OpenSpec.ofChange fnRemoveDotSegmentsLeavesNoDotSegmentsWrong)

end Rows
end Go.Proofs.Qxb6000716aMods
