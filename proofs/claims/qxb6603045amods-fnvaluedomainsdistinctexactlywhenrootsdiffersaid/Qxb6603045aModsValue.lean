import Derived.Test.Qxb6603045aModsClone
namespace Go.Proofs.Qxb6603045aMods
open Go.RowKit
set_option linter.unusedVariables false

def pre (p : Option ByteArray) (r : ByteArray) : ByteArray := match p with | none => r | some p => p ++ r
def suf (s : Option ByteArray) (r : ByteArray) : ByteArray := match s with | none => r | some s => r ++ s

theorem size_append (a b : ByteArray) : (a ++ b).size = a.size + b.size := ByteArray.size_append

set_option maxHeartbeats 1000000 in
theorem value_any (bi br n : Nat) (ap aq : Option Addr) (p s : Option ByteArray) (i : Nat) (r : ByteArray) (w : World) (hp : PtrTo w ap p) (hs : PtrTo w aq s)
    (h0 : w.cell? ⟨bi, 0, none⟩ = some (.pointer ap)) (h1 : w.cell? ⟨bi, 1, none⟩ = some (.pointer aq)) (h2 : w.cell? ⟨bi, 2, none⟩ = some (.slice (some ⟨br, 0, none⟩) n n))
    (hr : w.cell? ⟨br, i, none⟩ = some (.string r)) (hin : i < n) (lp : tlen p ≤ 1048576) (ls : tlen s ≤ 1048576) (lr : r.size ≤ 1048576) :
    Calls Trym.prog 10 #[.agg #[.pointer none, .pointer (some ⟨bi, 0, none⟩)], .int .i64 i] w fun e w' => e = .returned (.string (suf s (pre p r))) ∧ Below w.heap.size w w' := by
  have n0 := World.block_lt_of_cell? _ _ h0
  have n1 := World.block_lt_of_cell? _ _ h1
  have n2 := World.block_lt_of_cell? _ _ h2
  have n3 := World.block_lt_of_cell? _ _ hr
  simp only at n0 n1 n2 n3
  rcases hp with ⟨rfl, rfl⟩ | ⟨b0, o0, s0, rfl, rfl, hc0, hs0⟩ <;> rcases hs with ⟨rfl, rfl⟩ | ⟨b1, o1, s1, rfl, rfl, hc1, hs1⟩
  · go_enter Trym.func10, Trym.ntmps10
    go_wp2
    go_ret
    exact ⟨rfl, (Below.refl _ _).alloc (Nat.le_refl _) _⟩
  · have m1 : b1 < w.heap.size := World.block_lt_of_cell? _ _ hc1
    simp only [tlen] at ls
    have hq : r.size + s1.size ≤ 9223372036854775807 := by omega
    go_enter Trym.func10, Trym.ntmps10
    go_wp2
    go_ret
    exact ⟨rfl, (Below.refl _ _).alloc (Nat.le_refl _) _⟩
  · have m0 : b0 < w.heap.size := World.block_lt_of_cell? _ _ hc0
    simp only [tlen] at lp
    have hq : s0.size + r.size ≤ 9223372036854775807 := by omega
    go_enter Trym.func10, Trym.ntmps10
    go_wp2
    go_ret
    exact ⟨rfl, (Below.refl _ _).alloc (Nat.le_refl _) _⟩
  · have m0 : b0 < w.heap.size := World.block_lt_of_cell? _ _ hc0
    have m1 : b1 < w.heap.size := World.block_lt_of_cell? _ _ hc1
    simp only [tlen] at lp ls
    have hq : s0.size + r.size ≤ 9223372036854775807 := by omega
    have hq2 : (s0 ++ r).size + s1.size ≤ 9223372036854775807 := by rw [size_append]; omega
    go_enter Trym.func10, Trym.ntmps10
    go_wp2
    go_ret
    exact ⟨rfl, (Below.refl _ _).alloc (Nat.le_refl _) _⟩

set_option maxHeartbeats 1000000 in
theorem zzvalue_any (bi br n : Nat) (ap aq : Option Addr) (p s : Option ByteArray) (i : Nat) (r : ByteArray) (w : World) (hp : PtrTo w ap p) (hs : PtrTo w aq s)
    (h0 : w.cell? ⟨bi, 0, none⟩ = some (.pointer ap)) (h1 : w.cell? ⟨bi, 1, none⟩ = some (.pointer aq)) (h2 : w.cell? ⟨bi, 2, none⟩ = some (.slice (some ⟨br, 0, none⟩) n n))
    (hr : w.cell? ⟨br, i, none⟩ = some (.string r)) (hin : i < n) (lp : tlen p ≤ 1048576) (ls : tlen s ≤ 1048576) (lr : r.size ≤ 1048576) :
    Calls Trym.prog 8 #[.agg #[.pointer none, .pointer (some ⟨bi, 0, none⟩)], .int .i64 i] w fun e w' => e = .returned (.string (suf s (pre p r))) ∧ Below w.heap.size w w' := by
  have bel : ∀ o, Below w.heap.size w (w.alloc o) := fun o => (Below.refl _ _).alloc (Nat.le_refl _) _
  have C := fun o => value_any bi br n ap aq p s i r (w.alloc o) (hp.below (bel o)) (hs.below (bel o)) (cell_later (bel o) h0) (cell_later (bel o) h1) (cell_later (bel o) h2) (cell_later (bel o) hr) hin lp ls lr
  clear hp hs h0 h1 h2 hr lp ls lr
  have HC : Hid _ := C
  have HB : Hid _ := bel
  clear C bel
  go_enter Trym.func8, Trym.ntmps8
  go_wp2_with (go_at_call 10; refine (HC.out _).mono ?_; rintro e w' ⟨rfl, hb⟩)
  go_ret
  exact ⟨rfl, (HB.out _).trans (hb.mono (by simp))⟩

end Go.Proofs.Qxb6603045aMods
