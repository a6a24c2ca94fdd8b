/-
  No cell of these rows narrows 'for every input' (looked for: loops, veiled, ifaces, maps, wideKeys, modest, calm, conditions, laid).
  DERIVED. THE GIVEN ROWS OF THIS SEAT. 1 by the template 'for every input the law returns true; each argument reads behind the call as it read before'; 0 by the template 'total and deterministic' (their statements: Qxb6603045aModsTotals.lean).
  GIVEN WITH THE SEED: the statements are not yours to turn. If you find one false, say at which input.
  Laid BY PROGRAM, IN A SANDBOX (cutbox-rows.mjs): the forced cells as the released guide's own fill.sh prints them over the translation c4d7b776cb0a0b77… (all of the seat's roots in one cut). By AI agents, Wed Nov 11 2026. No macro, syntax, notation, axiom, sorry.
-/
import Derived.Test.Qxb6603045aModsChecked
import GoSem.Claim
import GoSem.ClaimJoined
import GoSem.ClaimMapViews
import Derived.JoinedTies
import Derived.KernelRfl
namespace Go.Proofs.Qxb6603045aMods
/- THE CELL 'sum', in the pinned program and in every row, IS THE sha256 OF THE DUMP (.gsa) THAT Qxb6603045aModsProg.lean LOADS. Nothing in Lean hashes anything: it is a label: what it is worth is what the hold of that sum in a sandbox is worth. -/
noncomputable def Trym.pinned : Pinned := { name := "qxb6603045amods", sum := "c4d7b776cb0a0b775056417c89d29bbfed32a51ad3629bf77fc2cb4c990f3101", checked := Trym.checked }
namespace Rows
def none {H : Type} : Left H := { results := [], args := [] }

/-- 'zzlaws_queue_b1.FnValueDomainsDistinctExactlyWhenRootsDiffer': WHATEVER THE INPUT: true; the input reads as it did. -/
def fnValueDomainsDistinctExactlyWhenRootsDifferSpec : ChangeSpec := { name := "fnValueDomainsDistinctExactlyWhenRootsDiffer", fn := fun _ => fun
  | [d1, d2, d3, d4, d5] => { results := [.lit (.bool true)], args := [d1, d2, d3, d4, d5] }
  | _ => none }
def fnValueDomainsDistinctExactlyWhenRootsDifferRow : OpenClaim := { program := "qxb6603045amods", sum := "c4d7b776cb0a0b775056417c89d29bbfed32a51ad3629bf77fc2cb4c990f3101", func := "example.com/outrank/outrank/zzlaws_queue_b1.FnValueDomainsDistinctExactlyWhenRootsDiffer", spec := "fnValueDomainsDistinctExactlyWhenRootsDiffer", make := .lifted ["publicsums"], apart := false }
def FnValueDomainsDistinctExactlyWhenRootsDifferSaid : Prop := fnValueDomainsDistinctExactlyWhenRootsDifferRow.holds Trym.pinned (OpenSpec.ofChange fnValueDomainsDistinctExactlyWhenRootsDifferSpec)

/-- ITS FALSE NEIGHBOUR: 'it returns false'. Refute it at one input. -/
def fnValueDomainsDistinctExactlyWhenRootsDifferWrong : ChangeSpec := { name := "fnValueDomainsDistinctExactlyWhenRootsDiffer", fn := fun _ => fun
  | [d1, d2, d3, d4, d5] => { results := [.lit (.bool false)], args := [d1, d2, d3, d4, d5] }
  | _ => none }
def FnValueDomainsDistinctExactlyWhenRootsDifferWrongFalsely : Prop := fnValueDomainsDistinctExactlyWhenRootsDifferRow.holds Trym.pinned (OpenSpec.ofChange fnValueDomainsDistinctExactlyWhenRootsDifferWrong)

end Rows
end Go.Proofs.Qxb6603045aMods
