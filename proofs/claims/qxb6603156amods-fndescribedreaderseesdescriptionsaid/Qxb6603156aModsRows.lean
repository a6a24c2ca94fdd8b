/-
  No cell of these rows narrows 'for every input' (looked for: loops, veiled, ifaces, maps, wideKeys, modest, calm, conditions, laid).
  DERIVED. THE GIVEN ROWS OF THIS SEAT. 2 by the template 'for every input the law returns true; each argument reads behind the call as it read before'; 0 by the template 'total and deterministic' (their statements: Qxb6603156aModsTotals.lean).
  GIVEN WITH THE SEED: the statements are not yours to turn. If you find one false, say at which input.
  Laid BY PROGRAM, IN A SANDBOX (cutbox-rows.mjs): the forced cells as the released guide's own fill.sh prints them over the translation d4ee08ca16d927b7… (all of the seat's roots in one cut). By AI agents, Wed Nov 11 2026. No macro, syntax, notation, axiom, sorry.
-/
import Derived.Test.Qxb6603156aModsChecked
import GoSem.Claim
import GoSem.ClaimJoined
import GoSem.ClaimMapViews
import Derived.JoinedTies
import Derived.KernelRfl
namespace Go.Proofs.Qxb6603156aMods
/- THE CELL 'sum', in the pinned program and in every row, IS THE sha256 OF THE DUMP (.gsa) THAT Qxb6603156aModsProg.lean LOADS. Nothing in Lean hashes anything: it is a label: what it is worth is what the hold of that sum in a sandbox is worth. -/
noncomputable def Trym.pinned : Pinned := { name := "qxb6603156amods", sum := "d4ee08ca16d927b75e6dca94367762a2f286dca50ecc3c26ea0f3510255fe1cf", checked := Trym.checked }
namespace Rows
def none {H : Type} : Left H := { results := [], args := [] }

/-- 'zzlaws_internal_server_b1.FnDescribedReaderSeesDescription': WHATEVER THE INPUT: true; the input reads as it did. -/
def fnDescribedReaderSeesDescriptionSpec : ChangeSpec := { name := "fnDescribedReaderSeesDescription", fn := fun _ => fun
  | [d1, d2, d3, d4, d5, d6] => { results := [.lit (.bool true)], args := [d1, d2, d3, d4, d5, d6] }
  | _ => none }
def fnDescribedReaderSeesDescriptionRow : OpenClaim := { program := "qxb6603156amods", sum := "d4ee08ca16d927b75e6dca94367762a2f286dca50ecc3c26ea0f3510255fe1cf", func := "example.com/fleetkeeper/fleetkeeper/zzlaws_internal_server_b1.FnDescribedReaderSeesDescription", spec := "fnDescribedReaderSeesDescription", make := .lifted ["publicsums"], apart := false }
def FnDescribedReaderSeesDescriptionSaid : Prop := fnDescribedReaderSeesDescriptionRow.holds Trym.pinned (OpenSpec.ofChange fnDescribedReaderSeesDescriptionSpec)

/-- ITS FALSE NEIGHBOUR: 'it returns false'. Refute it at one input. -/
def fnDescribedReaderSeesDescriptionWrong : ChangeSpec := { name := "fnDescribedReaderSeesDescription", fn := fun _ => fun
  | [d1, d2, d3, d4, d5, d6] => { results := [.lit (.bool false)], args := [d1, d2, d3, d4, d5, d6] }
  | _ => none }
def FnDescribedReaderSeesDescriptionWrongFalsely : Prop := fnDescribedReaderSeesDescriptionRow.holds Trym.pinned (OpenSpec.ofChange fnDescribedReaderSeesDescriptionWrong)

/-- 'zzlaws_internal_server_b1.FnDescribedTwiceNoNesting': WHATEVER THE INPUT: true; the input reads as it did. -/
def fnDescribedTwiceNoNestingSpec : ChangeSpec := { name := "fnDescribedTwiceNoNesting", fn := fun _ => fun
  | [d1, d2, d3, d4, d5, d6, d7] => { results := [.lit (.bool true)], args := [d1, d2, d3, d4, d5, d6, d7] }
  | _ => none }
def fnDescribedTwiceNoNestingRow : OpenClaim := { program := "qxb6603156amods", sum := "d4ee08ca16d927b75e6dca94367762a2f286dca50ecc3c26ea0f3510255fe1cf", func := "example.com/fleetkeeper/fleetkeeper/zzlaws_internal_server_b1.FnDescribedTwiceNoNesting", spec := "fnDescribedTwiceNoNesting", make := .lifted ["publicsums"], apart := false }
def FnDescribedTwiceNoNestingSaid : Prop := fnDescribedTwiceNoNestingRow.holds Trym.pinned (OpenSpec.ofChange fnDescribedTwiceNoNestingSpec)

/-- ITS FALSE NEIGHBOUR: 'it returns false'. Refute it at one input. -/
def fnDescribedTwiceNoNestingWrong : ChangeSpec := { name := "fnDescribedTwiceNoNesting", fn := fun _ => fun
  | [d1, d2, d3, d4, d5, d6, d7] => { results := [.lit (.bool false)], args := [d1, d2, d3, d4, d5, d6, d7] }
  | _ => none }
def FnDescribedTwiceNoNestingWrongFalsely : Prop := fnDescribedTwiceNoNestingRow.holds Trym.pinned (OpenSpec.ofChange fnDescribedTwiceNoNestingWrong)

end Rows
end Go.Proofs.Qxb6603156aMods
