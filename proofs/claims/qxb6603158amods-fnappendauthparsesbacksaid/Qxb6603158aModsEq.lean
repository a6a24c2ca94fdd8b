import Derived.Test.Qxb6603158aModsPlain
import Derived.ChangeKeysEq
namespace Go.Proofs.Qxb6603158aMods
open Go.RowKit
set_option linter.unusedVariables false
theorem Trym.cells5 : Trym.prog.cellsOf 5 = 1 := by kernel_rfl

theorem eq23 (d0 d1 d2 d3 d4 d5 d6 d7 : Int) (w : World) : (Op.equalIn 10000 23 (.agg #[.int .u8 d0, .int .u8 d1, .int .u8 d2, .int .u8 d3, .int .u8 d4, .int .u8 d5, .int .u8 d6, .int .u8 d7]) (.agg #[.int .u8 d0, .int .u8 d1, .int .u8 d2, .int .u8 d3, .int .u8 d4, .int .u8 d5, .int .u8 d6, .int .u8 d7])).run Trym.prog w = .ok true w := by
  obtain ⟨i0, hi, _⟩ := info_parts Trym.info5
  have he : ∀ (x : Int) (w : World), (Op.equalIn 9999 5 (.int .u8 x) (.int .u8 x)).run Trym.prog w = .ok true w := fun x w => by
    rw [show (9999 : Nat) = 9998 + 1 from rfl, run_equalIn_int w 9998 5 .u8 .u8 x x Trym.underlying5]
    simp
  rw [show (10000 : Nat) = 9999 + 1 from rfl, run_equalIn_array w 9999 _ _ Trym.underlying23 hi, Trym.cells5, show List.range 8 = [0, 1, 2, 3, 4, 5, 6, 7] from rfl]
  simp [Op.eqItems, part, isAgg, run_underlying Trym.underlying5, he]

end Go.Proofs.Qxb6603158aMods
