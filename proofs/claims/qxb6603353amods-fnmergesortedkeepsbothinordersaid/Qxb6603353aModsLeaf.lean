import Derived.Test.Qxb6603353aModsRows
import Derived.Test.Qxb6603353aModsPlain
import Derived.WalkKit
import Derived.WalkSpells
import Derived.WalkLawsBesides
import Derived.Deep.QuietTactic
import Derived.BigQuiet
namespace Go.Proofs.Qxb6603353aMods
open Go.RowKit
set_option linter.unusedVariables false

theorem Trym.info28 : (Trym.prog.info? 28).map (fun i => (i.zero, i.size, i.bytes)) = some (some (.int .u64 0), 1, 8) := by kernel_rfl

/-- Some bool; the world stands. -/
def AnyBool (w : World) (e : Ending) (w' : World) : Prop := ∃ r, e = .returned (.bool r) ∧ w = w'

/-- A slice of keys: of its elements xs each lies where the slice leads to. -/
def Src (w : World) (a : Option Addr) (n : Nat) (xs : List Int) : Prop :=
  xs.length = n ∧ (n < 1 ∨ ∃ b off, a = some ⟨b, off, none⟩ ∧ ∀ i, i < n → w.cell? ⟨b, off + i, none⟩ = some (.int .u64 (xs.getD i 0)))

theorem Src.below {w w' : World} {a : Option Addr} {n : Nat} {xs : List Int} (h : Src w a n xs) (hb : Below w.heap.size w w') : Src w' a n xs := by
  obtain ⟨h1, h2⟩ := h
  refine ⟨h1, ?_⟩
  rcases h2 with h2 | ⟨b, off, ha, hc⟩
  · exact Or.inl h2
  · exact Or.inr ⟨b, off, ha, fun i hi => cell_later hb (hc i hi)⟩

set_option maxHeartbeats 1000000 in
theorem bytes6_any (a0 a1 : Option Addr) (n0 c0 n1 c1 : Nat) (w : World) (h0 : n0 ≤ 9223372036854775807) (h1 : n1 ≤ 9223372036854775807) :
    Calls Trym.prog 6 #[.slice a0 n0 c0, .slice a1 n1 c1] w fun e w' => AnyBool w e w' := by
  go_enter Trym.func6, Trym.ntmps6
  go_wp2
  all_goals (go_ret; exact ⟨_, rfl, rfl⟩)

set_option maxHeartbeats 1000000 in
theorem bytes14_any (a0 a1 : Option Addr) (n0 c0 n1 c1 : Nat) (w : World) (h0 : n0 ≤ 9223372036854775807) (h1 : n1 ≤ 9223372036854775807) :
    Calls Trym.prog 14 #[.slice a0 n0 c0, .slice a1 n1 c1] w fun e w' => AnyBool w e w' := by
  go_enter Trym.func14, Trym.ntmps14
  go_wp2
  all_goals (go_ret; exact ⟨_, rfl, rfl⟩)

/-- What cloneU64 hands back. -/
def Own (w : World) (B : Nat) (a : Option Addr) (n : Nat) (xs : List Int) : Prop :=
  (a = none ∧ n = 0) ∨ (a = some ⟨B, 0, none⟩ ∧ B < w.heap.size ∧ ∀ i, i < n → w.cell? ⟨B, i, none⟩ = some (.int .u64 (xs.getD i 0)))

set_option maxHeartbeats 1000000 in
theorem clone_any (a : Option Addr) (n cap : Nat) (xs : List Int) (w : World) (h : Src w a n xs) (hl : n ≤ 65536) :
    Calls Trym.prog 8 #[.slice a n cap] w fun e w' => ∃ a', e = .returned (.slice a' n n) ∧ Own w' w.heap.size a' n xs ∧ Below w.heap.size w w' := by
  obtain ⟨hxl, hcs⟩ := h
  obtain ⟨i0, hi, hz0, hz1, hz2⟩ := info_parts Trym.info28
  have q22 : ∀ (w : World) (a : Option Addr) (n c n' c' : Nat), (binOp .eql 22 (.slice a n c) (.slice none n' c')).run Trym.prog w = .ok (.bool a.isNone) w := fun w a n c n' c' => Lib.run_eql_slice_nil w 22 28 a n c n' c' Trym.underlying22
  cases a with
  | none =>
    have h0 : n = 0 := by
      rcases hcs with h | ⟨b, off, h, _⟩
      · omega
      · cases h
    subst h0
    go_enter Trym.func8, Trym.ntmps8
    go_wp2
    go_ret
    exact ⟨none, rfl, Or.inl ⟨rfl, rfl⟩, Below.refl _ _⟩
  | some x =>
    rcases hcs with hz | ⟨b2, o2, ⟨⟩, hc2⟩
    all_goals
      go_enter Trym.func8, Trym.ntmps8
      go_wp2_with (at_make; refine wpList_make_full _ rfl _ _ 22 rfl w.heap.size 28 i0 (.int .u64 0) 1 Trym.underlying22 hi hz0 hz1 _ _ _ _ n rfl rfl rfl rfl (by rw [hz2]; omega) (by unfold maxLen; omega) (Nat.le_refl _) ?_)
      intro w0 hown0 hgrow0
      go_wp2
      go_loopw [4] (fun i wr => ∃ (k : Nat) (ys : List Value), k ≤ n ∧ i = .int .i64 k ∧ wr.ownsRow w.heap.size 28 1 (.slice (some ⟨w.heap.size, 0, none⟩) n n) n ys ∧
          (∀ j, j < k → ys[j]? = some (.int .u64 (xs.getD j 0))) ∧ Below w.heap.size w wr ∧ w.heap.size < wr.heap.size)
        (fun i _ => n - (intOf i).toNat)
      case atStart =>
        refine ⟨0, _, Nat.zero_le _, rfl, hown0, fun j hj => absurd hj (Nat.not_lt_zero _), (Below.refl _ _).grown hgrow0 (Nat.le_refl _) (fun k h => by cases h), ?_⟩
        rcases hown0.2 with ⟨h, _⟩ | ⟨g, cap', cur, h, _, hg, _⟩
        · cases h
        · cases h
          exact (Array.getElem?_eq_some_iff.1 hg).1
      case round =>
        obtain ⟨k, ys, hk, rfl, hown, hys, hnx, hsz⟩ := hrel
        by_cases hlt : k < n
        · first
            | (exfalso; omega)
            | (have hb2 : b2 < w.heap.size := World.block_lt_of_cell? _ _ (hc2 k hlt)
               have hg : wr.cell? ⟨b2, o2 + k, none⟩ = some (.int .u64 (xs.getD k 0)) := (hnx.cell (by exact hb2)).trans (hc2 k hlt)
               have hyl : ys.length = n := by simpa using hown.1
               obtain ⟨v, hv⟩ : ∃ v, ys[k]? = some v := ⟨ys[k], List.getElem?_eq_getElem (by omega)⟩
               have hold : wr.cell? ⟨w.heap.size, k, none⟩ = some v := (hown.cellAt k (by omega)).trans hv
               have hfz : wr.frozen? ⟨w.heap.size, k, none⟩ = false := hown.frozenAt k
               have HX : Hid (∀ j, j < k → ys[j]? = some (.int .u64 (xs.getD j 0))) := hys
               have HS : Hid _ := hown.stored k (.int .u64 (xs.getD k 0))
               generalize hx : xs.getD k 0 = x at hg HS
               have HE : Hid (xs.getD k 0 = x) := hx
               clear hys hown hx hc2 hv hown0 hgrow0
               go_wp2
               go_roundw
               case rel =>
                 refine ⟨k + 1, _, by omega, by go_num, HS.out.1, ?_, hnx.grown HS.out.2 hnx.size (fun j hj => by cases hj; exact Nat.le_refl _), Nat.lt_of_lt_of_le hsz HS.out.2.size⟩
                 intro j hj
                 by_cases e : j = k
                 · subst e; rw [List.getElem?_set, if_pos rfl, if_pos (by omega), HE.out]
                 · rw [List.getElem?_set, if_neg (by omega)]; exact HX.out j (by omega)
               case measure => simp [intOf]; omega)
        · go_wp2
          go_ret
          obtain rfl : k = n := by omega
          exact ⟨_, rfl, Or.inr ⟨rfl, hsz, fun i hi => (hown.cellAt i (by omega)).trans (hys i hi)⟩, hnx⟩

end Go.Proofs.Qxb6603353aMods
