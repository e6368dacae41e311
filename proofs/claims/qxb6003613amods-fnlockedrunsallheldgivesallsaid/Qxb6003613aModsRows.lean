/-
  No cell of these rows narrows 'for every input' (looked for: loops, veiled, ifaces, maps, wideKeys, modest, calm, conditions, laid).
  DERIVED. THE GIVEN ROWS OF THIS SEAT. 2 by the template 'for every input the law returns true; each argument reads behind the call as it read before'; 0 by the template 'total and deterministic' (their statements: Qxb6003613aModsTotals.lean).
  GIVEN WITH THE SEED: the statements are not yours to turn. If you find one false, say at which input.
  Laid BY PROGRAM, IN A SANDBOX (cutbox-rows.mjs): the forced cells as the released guide's own fill.sh prints them over the translation 958085b6cd915bc5… (all of the seat's roots in one cut). By AI agents, Wed Nov 11 2026. No macro, syntax, notation, axiom, sorry.
-/
import Derived.Test.Qxb6003613aModsChecked
import GoSem.Claim
import GoSem.ClaimJoined
import GoSem.ClaimMapViews
import Derived.JoinedTies
import Derived.KernelRfl
namespace Go.Proofs.Qxb6003613aMods
/- THE CELL 'sum', in the pinned program and in every row, IS THE sha256 OF THE DUMP (.gsa) THAT Qxb6003613aModsProg.lean LOADS. Nothing in Lean hashes anything: it is a label: what it is worth is what the hold of that sum in a sandbox is worth. -/
noncomputable def Trym.pinned : Pinned := { name := "qxb6003613amods", sum := "958085b6cd915bc5d5b97fa2cf0e783646205b9c06f34f5826523c2fabe4c8df", checked := Trym.checked }
namespace Rows
def none {H : Type} : Left H := { results := [], args := [] }

/-- 'zzlaws_internal_store_b1.FnLockedRunsAllHeldGivesAll': WHATEVER THE INPUT: true; the input reads as it did. -/
def fnLockedRunsAllHeldGivesAllSpec : ChangeSpec := { name := "fnLockedRunsAllHeldGivesAll", fn := fun _ => fun
  | [d1, d2] => { results := [.lit (.bool true)], args := [d1, d2] }
  | _ => none }
def fnLockedRunsAllHeldGivesAllRow : OpenClaim := { program := "qxb6003613amods", sum := "958085b6cd915bc5d5b97fa2cf0e783646205b9c06f34f5826523c2fabe4c8df", func := "example.com/postledger/postledger/zzlaws_internal_store_b1.FnLockedRunsAllHeldGivesAll", spec := "fnLockedRunsAllHeldGivesAll", make := .lifted ["publicsums"], apart := false }
def FnLockedRunsAllHeldGivesAllSaid : Prop := fnLockedRunsAllHeldGivesAllRow.holds Trym.pinned (OpenSpec.ofChange fnLockedRunsAllHeldGivesAllSpec)

/-- ITS FALSE NEIGHBOUR: 'it returns false'. Refute it at one input. -/
def fnLockedRunsAllHeldGivesAllWrong : ChangeSpec := { name := "fnLockedRunsAllHeldGivesAll", fn := fun _ => fun
  | [d1, d2] => { results := [.lit (.bool false)], args := [d1, d2] }
  | _ => none }
def FnLockedRunsAllHeldGivesAllWrongFalsely : Prop := fnLockedRunsAllHeldGivesAllRow.holds Trym.pinned (OpenSpec.ofChange fnLockedRunsAllHeldGivesAllWrong)

/-- 'zzlaws_internal_store_b1.FnPostgresRunsSplicesEachArgumentOnce': WHATEVER THE INPUT: true; the input reads as it did. -/
def fnPostgresRunsSplicesEachArgumentOnceSpec : ChangeSpec := { name := "fnPostgresRunsSplicesEachArgumentOnce", fn := fun _ => fun
  | [d1, d2, d3] => { results := [.lit (.bool true)], args := [d1, d2, d3] }
  | _ => none }
def fnPostgresRunsSplicesEachArgumentOnceRow : OpenClaim := { program := "qxb6003613amods", sum := "958085b6cd915bc5d5b97fa2cf0e783646205b9c06f34f5826523c2fabe4c8df", func := "example.com/postledger/postledger/zzlaws_internal_store_b1.FnPostgresRunsSplicesEachArgumentOnce", spec := "fnPostgresRunsSplicesEachArgumentOnce", make := .lifted ["publicsums"], apart := false }
def FnPostgresRunsSplicesEachArgumentOnceSaid : Prop := fnPostgresRunsSplicesEachArgumentOnceRow.holds Trym.pinned (OpenSpec.ofChange fnPostgresRunsSplicesEachArgumentOnceSpec)

/-- ITS FALSE NEIGHBOUR: 'it returns false'. Refute it at one input. -/
def fnPostgresRunsSplicesEachArgumentOnceWrong : ChangeSpec := { name := "fnPostgresRunsSplicesEachArgumentOnce", fn := fun _ => fun
  | [d1, d2, d3] => { results := [.lit (.bool false)], args := [d1, d2, d3] }
  | _ => none }
def FnPostgresRunsSplicesEachArgumentOnceWrongFalsely : Prop := fnPostgresRunsSplicesEachArgumentOnceRow.holds Trym.pinned (OpenSpec.ofChange fnPostgresRunsSplicesEachArgumentOnceWrong)

end Rows
end Go.Proofs.Qxb6003613aMods
