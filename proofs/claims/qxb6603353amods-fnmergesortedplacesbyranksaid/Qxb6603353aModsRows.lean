/-
  No cell of these rows narrows 'for every input' (looked for: loops, veiled, ifaces, maps, wideKeys, modest, calm, conditions, laid).
  DERIVED. THE GIVEN ROWS OF THIS SEAT. 3 by the template 'for every input the law returns true; each argument reads behind the call as it read before'; 0 by the template 'total and deterministic' (their statements: Qxb6603353aModsTotals.lean).
  GIVEN WITH THE SEED: the statements are not yours to turn. If you find one false, say at which input.
  Laid BY PROGRAM, IN A SANDBOX (cutbox-rows.mjs): the forced cells as the released guide's own fill.sh prints them over the translation 864b9ea9d66c997d… (all of the seat's roots in one cut). By AI agents, Wed Nov 11 2026. No macro, syntax, notation, axiom, sorry.
-/
import Derived.Test.Qxb6603353aModsChecked
import GoSem.Claim
import GoSem.ClaimJoined
import GoSem.ClaimMapViews
import Derived.JoinedTies
import Derived.KernelRfl
namespace Go.Proofs.Qxb6603353aMods
/- THE CELL 'sum', in the pinned program and in every row, IS THE sha256 OF THE DUMP (.gsa) THAT Qxb6603353aModsProg.lean LOADS. Nothing in Lean hashes anything: it is a label: what it is worth is what the hold of that sum in a sandbox is worth. -/
noncomputable def Trym.pinned : Pinned := { name := "qxb6603353amods", sum := "864b9ea9d66c997d109fd73ed5e146b6c4bd94c67277cb0844cf8857bd683e3b", checked := Trym.checked }
namespace Rows
def none {H : Type} : Left H := { results := [], args := [] }

/-- 'zzlaws_root_b1.FnMergeSortedPlacesByRank': WHATEVER THE INPUT: true; the input reads as it did. -/
def fnMergeSortedPlacesByRankSpec : ChangeSpec := { name := "fnMergeSortedPlacesByRank", fn := fun _ => fun
  | [d1, d2] => { results := [.lit (.bool true)], args := [d1, d2] }
  | _ => none }
def fnMergeSortedPlacesByRankRow : OpenClaim := { program := "qxb6603353amods", sum := "864b9ea9d66c997d109fd73ed5e146b6c4bd94c67277cb0844cf8857bd683e3b", func := "example.com/coffer/coffer/zzlaws_root_b1.FnMergeSortedPlacesByRank", spec := "fnMergeSortedPlacesByRank", make := .lifted ["publicsums"], apart := false }
def FnMergeSortedPlacesByRankSaid : Prop := fnMergeSortedPlacesByRankRow.holds Trym.pinned (OpenSpec.ofChange fnMergeSortedPlacesByRankSpec)

/-- ITS FALSE NEIGHBOUR: 'it returns false'. Refute it at one input. -/
def fnMergeSortedPlacesByRankWrong : ChangeSpec := { name := "fnMergeSortedPlacesByRank", fn := fun _ => fun
  | [d1, d2] => { results := [.lit (.bool false)], args := [d1, d2] }
  | _ => none }
def FnMergeSortedPlacesByRankWrongFalsely : Prop := fnMergeSortedPlacesByRankRow.holds Trym.pinned (OpenSpec.ofChange fnMergeSortedPlacesByRankWrong)

/-- 'zzlaws_root_b1.FnMergeSortedAssociativeCommutative': WHATEVER THE INPUT: true; the input reads as it did. -/
def fnMergeSortedAssociativeCommutativeSpec : ChangeSpec := { name := "fnMergeSortedAssociativeCommutative", fn := fun _ => fun
  | [d1, d2, d3] => { results := [.lit (.bool true)], args := [d1, d2, d3] }
  | _ => none }
def fnMergeSortedAssociativeCommutativeRow : OpenClaim := { program := "qxb6603353amods", sum := "864b9ea9d66c997d109fd73ed5e146b6c4bd94c67277cb0844cf8857bd683e3b", func := "example.com/coffer/coffer/zzlaws_root_b1.FnMergeSortedAssociativeCommutative", spec := "fnMergeSortedAssociativeCommutative", make := .lifted ["publicsums"], apart := false }
def FnMergeSortedAssociativeCommutativeSaid : Prop := fnMergeSortedAssociativeCommutativeRow.holds Trym.pinned (OpenSpec.ofChange fnMergeSortedAssociativeCommutativeSpec)

/-- ITS FALSE NEIGHBOUR: 'it returns false'. Refute it at one input. -/
def fnMergeSortedAssociativeCommutativeWrong : ChangeSpec := { name := "fnMergeSortedAssociativeCommutative", fn := fun _ => fun
  | [d1, d2, d3] => { results := [.lit (.bool false)], args := [d1, d2, d3] }
  | _ => none }
def FnMergeSortedAssociativeCommutativeWrongFalsely : Prop := fnMergeSortedAssociativeCommutativeRow.holds Trym.pinned (OpenSpec.ofChange fnMergeSortedAssociativeCommutativeWrong)

/-- 'zzlaws_root_b1.FnMergeSortedKeepsBothInOrder': WHATEVER THE INPUT: true; the input reads as it did. -/
def fnMergeSortedKeepsBothInOrderSpec : ChangeSpec := { name := "fnMergeSortedKeepsBothInOrder", fn := fun _ => fun
  | [d1, d2] => { results := [.lit (.bool true)], args := [d1, d2] }
  | _ => none }
def fnMergeSortedKeepsBothInOrderRow : OpenClaim := { program := "qxb6603353amods", sum := "864b9ea9d66c997d109fd73ed5e146b6c4bd94c67277cb0844cf8857bd683e3b", func := "example.com/coffer/coffer/zzlaws_root_b1.FnMergeSortedKeepsBothInOrder", spec := "fnMergeSortedKeepsBothInOrder", make := .lifted ["publicsums"], apart := false }
def FnMergeSortedKeepsBothInOrderSaid : Prop := fnMergeSortedKeepsBothInOrderRow.holds Trym.pinned (OpenSpec.ofChange fnMergeSortedKeepsBothInOrderSpec)

/-- ITS FALSE NEIGHBOUR: 'it returns false'. Refute it at one input. -/
def fnMergeSortedKeepsBothInOrderWrong : ChangeSpec := { name := "fnMergeSortedKeepsBothInOrder", fn := fun _ => fun
  | [d1, d2] => { results := [.lit (.bool false)], args := [d1, d2] }
  | _ => none }
def FnMergeSortedKeepsBothInOrderWrongFalsely : Prop := fnMergeSortedKeepsBothInOrderRow.holds Trym.pinned (OpenSpec.ofChange fnMergeSortedKeepsBothInOrderWrong)

end Rows
end Go.Proofs.Qxb6603353aMods
