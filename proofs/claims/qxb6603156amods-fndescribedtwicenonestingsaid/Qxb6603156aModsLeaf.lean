import Derived.Test.Qxb6603156aModsRows
import Derived.WalkKit
import Derived.WalkSpells
import Derived.WalkLawsBesides
import Derived.Lib.Builder
namespace Go.Proofs.Qxb6603156aMods
open Go.RowKit
set_option linter.unusedVariables false

def AnyBool (w : World) (e : Ending) (w' : World) : Prop := ∃ r, e = .returned (.bool r) ∧ w = w'

set_option maxHeartbeats 1000000 in
theorem bytes5_any (a0 : Bool) (a1 a2 a3 a4 a5 : ByteArray) (w : World) (w1 : a1.size ≤ 9223372036854775807) (w2 : a2.size ≤ 9223372036854775807) (w3 : a3.size ≤ 9223372036854775807) (w4 : a4.size ≤ 9223372036854775807) (w5 : a5.size ≤ 9223372036854775807) :
    Calls Trym.prog 5 #[.bool a0, .string a1, .string a2, .string a3, .string a4, .string a5] w fun e w' => AnyBool w e w' := by
  go_enter Trym.func5, Trym.ntmps5
  go_wp2
  all_goals (go_ret; exact ⟨_, rfl, rfl⟩)

set_option maxHeartbeats 1000000 in
theorem bytes6_any (a0 : Bool) (a1 a2 a3 a4 a5 a6 : ByteArray) (w : World) (w1 : a1.size ≤ 9223372036854775807) (w2 : a2.size ≤ 9223372036854775807) (w3 : a3.size ≤ 9223372036854775807) (w4 : a4.size ≤ 9223372036854775807) (w5 : a5.size ≤ 9223372036854775807) (w6 : a6.size ≤ 9223372036854775807) :
    Calls Trym.prog 11 #[.bool a0, .string a1, .string a2, .string a3, .string a4, .string a5, .string a6] w fun e w' => AnyBool w e w' := by
  go_enter Trym.func11, Trym.ntmps11
  go_wp2
  all_goals (go_ret; exact ⟨_, rfl, rfl⟩)

theorem Trym.info28 : (Trym.prog.info? 28).isSome = true := by kernel_rfl

/-- The run equations that the walks use: a map that is made; slices, maps against nil; a pointer against itself. -/
structure Facts : Prop where
  mm : ∀ (t : TypeId) (w : World), (Instr.makeMap t none).run Trym.prog w = .ok (.map (some w.heap.size)) (w.alloc (.map #[] 0))
  q24 : ∀ (w : World) (a : Option Addr) (n c n' c' : Nat), (binOp .eql 24 (.slice a n c) (.slice none n' c')).run Trym.prog w = .ok (.bool a.isNone) w
  q26 : ∀ (w : World) (a : Option Addr) (n c n' c' : Nat), (binOp .eql 26 (.slice a n c) (.slice none n' c')).run Trym.prog w = .ok (.bool a.isNone) w
  q25 : ∀ (w : World) (r : Option Nat), (binOp .eql 25 (.map r) (.map none)).run Trym.prog w = .ok (.bool r.isNone) w
  q23 : ∀ (w : World) (a : Addr), (binOp .neq 23 (.pointer (some a)) (.pointer (some a))).run Trym.prog w = .ok (.bool false) w
  q23' : ∀ (w : World) (a : Addr), (binOp .eql 23 (.pointer (some a)) (.pointer (some a))).run Trym.prog w = .ok (.bool true) w

theorem facts : Facts := by
  obtain ⟨j28, hj28⟩ := Option.isSome_iff_exists.1 Trym.info28
  exact ⟨@run_makeMap Trym.prog, fun w a n c n' c' => Lib.run_eql_slice_nil w 24 23 a n c n' c' Trym.underlying24, fun w a n c n' c' => Lib.run_eql_slice_nil w 26 56 a n c n' c' Trym.underlying26,
    fun w r => run_eql_map_nil w _ _ _ r Trym.underlying25, fun w a => Lib.run_neq_ptr_same w a Trym.underlying23 hj28, fun w a => run_eql_ptr_same w a Trym.underlying23 hj28⟩

end Go.Proofs.Qxb6603156aMods
