/-
  No cell of these rows narrows 'for every input' (looked for: loops, veiled, ifaces, maps, wideKeys, modest, calm, conditions, laid).
  DERIVED. THE GIVEN ROWS OF THIS SEAT. 3 by the template 'for every input the law returns true; each argument reads behind the call as it read before'; 0 by the template 'total and deterministic' (their statements: Qxb6001611aModsTotals.lean).
  GIVEN WITH THE SEED: the statements are not yours to turn. If you find one false, say at which input.
  Laid BY PROGRAM, IN A SANDBOX (cutbox-rows.mjs): the forced cells as the released guide's own fill.sh prints them over the translation 778cd7dc28ec68d4… (all of the seat's roots in one cut). By AI agents, Wed Nov 11 2026. No macro, syntax, notation, axiom, sorry.
-/
import Derived.Test.Qxb6001611aModsChecked
import GoSem.Claim
import GoSem.ClaimJoined
import GoSem.ClaimMapViews
import Derived.JoinedTies
import Derived.KernelRfl
namespace Go.Proofs.Qxb6001611aMods
/- THE CELL 'sum', in the pinned program and in every row, IS THE sha256 OF THE DUMP (.gsa) THAT Qxb6001611aModsProg.lean LOADS. Nothing in Lean hashes anything: it is a label: what it is worth is what the hold of that sum in a sandbox is worth. -/
noncomputable def Trym.pinned : Pinned := { name := "qxb6001611amods", sum := "778cd7dc28ec68d4159bcc95032edb3ebdbd9dfac6b5374f54bff34ca190da1c", checked := Trym.checked }
namespace Rows
def none {H : Type} : Left H := { results := [], args := [] }

/-- 'zzlaws_gossip_b1.FnTakeMatchesReplayModel': WHATEVER THE INPUT: true; the input reads as it did. -/
def fnTakeMatchesReplayModelSpec : ChangeSpec := { name := "fnTakeMatchesReplayModel", fn := fun _ => fun
  | [d1, d2] => { results := [.lit (.bool true)], args := [d1, d2] }
  | _ => none }
def fnTakeMatchesReplayModelRow : OpenClaim := { program := "qxb6001611amods", sum := "778cd7dc28ec68d4159bcc95032edb3ebdbd9dfac6b5374f54bff34ca190da1c", func := "example.com/loomway/loomway/zzlaws_gossip_b1.FnTakeMatchesReplayModel", spec := "fnTakeMatchesReplayModel", make := .lifted ["publicsums"], apart := false }
def FnTakeMatchesReplayModelSaid : Prop := fnTakeMatchesReplayModelRow.holds Trym.pinned (OpenSpec.ofChange fnTakeMatchesReplayModelSpec)

/-- ITS FALSE NEIGHBOUR: 'it returns false'. Refute it at one input. -/
def fnTakeMatchesReplayModelWrong : ChangeSpec := { name := "fnTakeMatchesReplayModel", fn := fun _ => fun
  | [d1, d2] => { results := [.lit (.bool false)], args := [d1, d2] }
  | _ => none }
def FnTakeMatchesReplayModelWrongFalsely : Prop := fnTakeMatchesReplayModelRow.holds Trym.pinned (OpenSpec.ofChange fnTakeMatchesReplayModelWrong)

/-- 'zzlaws_gossip_b1.FnTakeRefusesReplayAndOlderIncarnations': WHATEVER THE INPUT: true; the input reads as it did. -/
def fnTakeRefusesReplayAndOlderIncarnationsSpec : ChangeSpec := { name := "fnTakeRefusesReplayAndOlderIncarnations", fn := fun _ => fun
  | [d1, d2, d3, d4, d5, d6, d7] => { results := [.lit (.bool true)], args := [d1, d2, d3, d4, d5, d6, d7] }
  | _ => none }
def fnTakeRefusesReplayAndOlderIncarnationsRow : OpenClaim := { program := "qxb6001611amods", sum := "778cd7dc28ec68d4159bcc95032edb3ebdbd9dfac6b5374f54bff34ca190da1c", func := "example.com/loomway/loomway/zzlaws_gossip_b1.FnTakeRefusesReplayAndOlderIncarnations", spec := "fnTakeRefusesReplayAndOlderIncarnations", make := .lifted ["publicsums"], apart := false }
def FnTakeRefusesReplayAndOlderIncarnationsSaid : Prop := fnTakeRefusesReplayAndOlderIncarnationsRow.holds Trym.pinned (OpenSpec.ofChange fnTakeRefusesReplayAndOlderIncarnationsSpec)

/-- ITS FALSE NEIGHBOUR: 'it returns false'. Refute it at one input. -/
def fnTakeRefusesReplayAndOlderIncarnationsWrong : ChangeSpec := { name := "fnTakeRefusesReplayAndOlderIncarnations", fn := fun _ => fun
  | [d1, d2, d3, d4, d5, d6, d7] => { results := [.lit (.bool false)], args := [d1, d2, d3, d4, d5, d6, d7] }
  | _ => none }
def FnTakeRefusesReplayAndOlderIncarnationsWrongFalsely : Prop := fnTakeRefusesReplayAndOlderIncarnationsRow.holds Trym.pinned (OpenSpec.ofChange fnTakeRefusesReplayAndOlderIncarnationsWrong)

/-- 'zzlaws_gossip_b1.FnTakeNeverGoesBackAndRefusalIsSilent': WHATEVER THE INPUT: true; the input reads as it did. -/
def fnTakeNeverGoesBackAndRefusalIsSilentSpec : ChangeSpec := { name := "fnTakeNeverGoesBackAndRefusalIsSilent", fn := fun _ => fun
  | [d1, d2, d3, d4, d5] => { results := [.lit (.bool true)], args := [d1, d2, d3, d4, d5] }
  | _ => none }
def fnTakeNeverGoesBackAndRefusalIsSilentRow : OpenClaim := { program := "qxb6001611amods", sum := "778cd7dc28ec68d4159bcc95032edb3ebdbd9dfac6b5374f54bff34ca190da1c", func := "example.com/loomway/loomway/zzlaws_gossip_b1.FnTakeNeverGoesBackAndRefusalIsSilent", spec := "fnTakeNeverGoesBackAndRefusalIsSilent", make := .lifted ["publicsums"], apart := false }
def FnTakeNeverGoesBackAndRefusalIsSilentSaid : Prop := fnTakeNeverGoesBackAndRefusalIsSilentRow.holds Trym.pinned (OpenSpec.ofChange fnTakeNeverGoesBackAndRefusalIsSilentSpec)

/-- ITS FALSE NEIGHBOUR: 'it returns false'. Refute it at one input. -/
def fnTakeNeverGoesBackAndRefusalIsSilentWrong : ChangeSpec := { name := "fnTakeNeverGoesBackAndRefusalIsSilent", fn := fun _ => fun
  | [d1, d2, d3, d4, d5] => { results := [.lit (.bool false)], args := [d1, d2, d3, d4, d5] }
  | _ => none }
def FnTakeNeverGoesBackAndRefusalIsSilentWrongFalsely : Prop := fnTakeNeverGoesBackAndRefusalIsSilentRow.holds Trym.pinned (OpenSpec.ofChange fnTakeNeverGoesBackAndRefusalIsSilentWrong)

end Rows
end Go.Proofs.Qxb6001611aMods
