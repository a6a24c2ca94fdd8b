import Derived.Test.Qxb6603158aModsAppend
import Derived.Handy
namespace Go.Proofs.Qxb6603158aMods
open Go.RowKit
set_option linter.unusedVariables false

set_option maxHeartbeats 1000000 in
theorem parse_any (g cap n ni nv : Nat) (d0 d1 d2 d3 d4 d5 d6 d7 cf : Int) (w : World) (ln : n ≤ 65536) (li : ni ≤ 255) (lv : nv ≤ 255) (hcap : n + 4 + ni + nv + 8 + 1 ≤ cap)
    (c0 : w.cell? ⟨g, n, none⟩ = some (.int .u8 0)) (c1 : w.cell? ⟨g, n + 1, none⟩ = some (.int .u8 1)) (c2 : w.cell? ⟨g, n + 2, none⟩ = some (.int .u8 ni)) (c3 : w.cell? ⟨g, n + 3, none⟩ = some (.int .u8 nv))
    (e0 : w.cell? ⟨g, n + 4 + ni + nv, none⟩ = some (.int .u8 d0)) (e1 : w.cell? ⟨g, n + 4 + ni + nv + 1, none⟩ = some (.int .u8 d1)) (e2 : w.cell? ⟨g, n + 4 + ni + nv + 2, none⟩ = some (.int .u8 d2)) (e3 : w.cell? ⟨g, n + 4 + ni + nv + 3, none⟩ = some (.int .u8 d3))
    (e4 : w.cell? ⟨g, n + 4 + ni + nv + 4, none⟩ = some (.int .u8 d4)) (e5 : w.cell? ⟨g, n + 4 + ni + nv + 5, none⟩ = some (.int .u8 d5)) (e6 : w.cell? ⟨g, n + 4 + ni + nv + 6, none⟩ = some (.int .u8 d6)) (e7 : w.cell? ⟨g, n + 4 + ni + nv + 7, none⟩ = some (.int .u8 d7))
    (e8 : w.cell? ⟨g, n + 4 + ni + nv + 8, none⟩ = some (.int .u8 cf)) :
    Calls Trym.prog 9 #[.slice (some ⟨g, 0, none⟩) (n + 4 + ni + nv + 8 + 1) cap, .int .i64 n] w fun e w' =>
      e = .returned (.tuple #[.slice (some ⟨g, n + 4, none⟩) ni (cap - (n + 4)), .slice (some ⟨g, n + 4 + ni, none⟩) nv (cap - (n + 4 + ni)), .agg #[.int .u8 d0, .int .u8 d1, .int .u8 d2, .int .u8 d3, .int .u8 d4, .int .u8 d5, .int .u8 d6, .int .u8 d7], .int .u8 cf, .int .i64 (n + 4 + ni + nv + 8 + 1 : Nat), .bool true]) ∧ Below w.heap.size w w' := by
  have hg : g < w.heap.size := World.block_lt_of_cell? _ _ c0
  go_enter Trym.func9, Trym.ntmps9
  go_wp2
  go_rounds 9
  go_region
  all_goals go_wp2
  refine bodyPost_ret (v := .tuple #[.slice (some ⟨g, n + 4, none⟩) (n + 4 + ni - (n + 4)) (cap - (n + 4)), .slice (some ⟨g, n + 4 + ni, none⟩) (n + 4 + ni + nv - (n + 4 + ni)) (cap - (n + 4 + ni)), .agg #[.int .u8 d0, .int .u8 d1, .int .u8 d2, .int .u8 d3, .int .u8 d4, .int .u8 d5, .int .u8 d6, .int .u8 d7], .int .u8 cf, .int .i64 ((n : Int) + (4 + (ni : Int) + (nv : Int) + 8 + 1)), .bool true]) (by simp [results, Trym.results9, go_sem]) rfl ⟨?_, ?_⟩
  · rw [Nat.add_sub_cancel_left, Nat.add_sub_cancel_left, show ((n + 4 + ni + nv + 8 + 1 : Nat) : Int) = (n : Int) + (4 + (ni : Int) + (nv : Int) + 8 + 1) from by omega]
  · exact ((Below.refl _ _).alloc (Nat.le_refl _) _).drew

end Go.Proofs.Qxb6603158aMods
