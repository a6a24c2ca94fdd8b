/-
  No cell of these rows narrows 'for every input' (looked for: loops, veiled, ifaces, maps, wideKeys, modest, calm, conditions, laid).
  DERIVED. THE GIVEN ROWS OF THIS SEAT. 2 by the template 'for every input the law returns true; each argument reads behind the call as it read before'; 0 by the template 'total and deterministic' (their statements: Qxb6603158aModsTotals.lean).
  GIVEN WITH THE SEED: the statements are not yours to turn. If you find one false, say at which input.
  Laid BY PROGRAM, IN A SANDBOX (cutbox-rows.mjs): the forced cells as the released guide's own fill.sh prints them over the translation 3de7762791290b2d… (all of the seat's roots in one cut). By AI agents, Wed Nov 11 2026. No macro, syntax, notation, axiom, sorry.
-/
import Derived.Test.Qxb6603158aModsChecked
import GoSem.Claim
import GoSem.ClaimJoined
import GoSem.ClaimMapViews
import Derived.JoinedTies
import Derived.KernelRfl
namespace Go.Proofs.Qxb6603158aMods
/- THE CELL 'sum', in the pinned program and in every row, IS THE sha256 OF THE DUMP (.gsa) THAT Qxb6603158aModsProg.lean LOADS. Nothing in Lean hashes anything: it is a label: what it is worth is what the hold of that sum in a sandbox is worth. -/
noncomputable def Trym.pinned : Pinned := { name := "qxb6603158amods", sum := "3de7762791290b2d75c9dbc3eb4be38f4a2fb0fa1d3027868d6cfd3b4dd77b6b", checked := Trym.checked }
namespace Rows
def none {H : Type} : Left H := { results := [], args := [] }

/-- 'zzlaws_internal_teredo_b1.FnAppendAuthParsesBack': WHATEVER THE INPUT: true; the input reads as it did. -/
def fnAppendAuthParsesBackSpec : ChangeSpec := { name := "fnAppendAuthParsesBack", fn := fun _ => fun
  | [d1, d2, d3, d4, d5] => { results := [.lit (.bool true)], args := [d1, d2, d3, d4, d5] }
  | _ => none }
def fnAppendAuthParsesBackRow : OpenClaim := { program := "qxb6603158amods", sum := "3de7762791290b2d75c9dbc3eb4be38f4a2fb0fa1d3027868d6cfd3b4dd77b6b", func := "example.com/tunnelwright/tunnelwright/zzlaws_internal_teredo_b1.FnAppendAuthParsesBack", spec := "fnAppendAuthParsesBack", make := .lifted ["publicsums"], apart := false }
def FnAppendAuthParsesBackSaid : Prop := fnAppendAuthParsesBackRow.holds Trym.pinned (OpenSpec.ofChange fnAppendAuthParsesBackSpec)

/-- ITS FALSE NEIGHBOUR: 'it returns false'. Refute it at one input. -/
def fnAppendAuthParsesBackWrong : ChangeSpec := { name := "fnAppendAuthParsesBack", fn := fun _ => fun
  | [d1, d2, d3, d4, d5] => { results := [.lit (.bool false)], args := [d1, d2, d3, d4, d5] }
  | _ => none }
def FnAppendAuthParsesBackWrongFalsely : Prop := fnAppendAuthParsesBackRow.holds Trym.pinned (OpenSpec.ofChange fnAppendAuthParsesBackWrong)

/-- 'zzlaws_internal_teredo_b1.FnAppendAuthChains': WHATEVER THE INPUT: true; the input reads as it did. -/
def fnAppendAuthChainsSpec : ChangeSpec := { name := "fnAppendAuthChains", fn := fun _ => fun
  | [d1, d2, d3, d4, d5, d6, d7, d8, d9] => { results := [.lit (.bool true)], args := [d1, d2, d3, d4, d5, d6, d7, d8, d9] }
  | _ => none }
def fnAppendAuthChainsRow : OpenClaim := { program := "qxb6603158amods", sum := "3de7762791290b2d75c9dbc3eb4be38f4a2fb0fa1d3027868d6cfd3b4dd77b6b", func := "example.com/tunnelwright/tunnelwright/zzlaws_internal_teredo_b1.FnAppendAuthChains", spec := "fnAppendAuthChains", make := .lifted ["publicsums"], apart := false }
def FnAppendAuthChainsSaid : Prop := fnAppendAuthChainsRow.holds Trym.pinned (OpenSpec.ofChange fnAppendAuthChainsSpec)

/-- ITS FALSE NEIGHBOUR: 'it returns false'. Refute it at one input. -/
def fnAppendAuthChainsWrong : ChangeSpec := { name := "fnAppendAuthChains", fn := fun _ => fun
  | [d1, d2, d3, d4, d5, d6, d7, d8, d9] => { results := [.lit (.bool false)], args := [d1, d2, d3, d4, d5, d6, d7, d8, d9] }
  | _ => none }
def FnAppendAuthChainsWrongFalsely : Prop := fnAppendAuthChainsRow.holds Trym.pinned (OpenSpec.ofChange fnAppendAuthChainsWrong)

end Rows
end Go.Proofs.Qxb6603158aMods
