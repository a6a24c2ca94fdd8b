import Derived.Test.Qxb6603045aModsRows
import Derived.WalkKit
import Derived.WalkSpells
import Derived.WalkLawsBesides
namespace Go.Proofs.Qxb6603045aMods
open Go.RowKit
set_option linter.unusedVariables false

/-- A pointer to a text: nil, or it leads to a cell that holds the string. -/
def PtrTo (w : World) (a : Option Addr) (t : Option ByteArray) : Prop :=
  (a = none ∧ t = none) ∨ ∃ b off s, a = some ⟨b, off, none⟩ ∧ t = some s ∧ w.cell? ⟨b, off, none⟩ = some (.string s) ∧ s.size ≤ 9223372036854775807

def tlen (t : Option ByteArray) : Nat := match t with | none => 0 | some s => s.size

/-- A slice of strings: nil, or it leads to the strings 'ss' (the first 'len' of the cells). -/
def IsStrs (w : World) (a : Option Addr) (len : Nat) (ss : List ByteArray) : Prop :=
  (∀ s ∈ ss, s.size ≤ 9223372036854775807) ∧ len ≤ ss.length ∧ len ≤ 9223372036854775807 ∧
  (len = 0 ∨ ∃ b off, a = some ⟨b, off, none⟩ ∧ ∀ i, i < len → w.cell? ⟨b, off + i, none⟩ = some (.string (ss.getD i ByteArray.empty)))

theorem PtrTo.below {w w' : World} {a : Option Addr} {t : Option ByteArray} (h : PtrTo w a t) (hb : Below w.heap.size w w') : PtrTo w' a t := by
  rcases h with h | ⟨b, off, s, h1, h2, hc, hs⟩
  · exact Or.inl h
  · exact Or.inr ⟨b, off, s, h1, h2, cell_later hb hc, hs⟩

theorem IsStrs.below {w w' : World} {a : Option Addr} {len : Nat} {ss : List ByteArray} (h : IsStrs w a len ss) (hb : Below w.heap.size w w') : IsStrs w' a len ss := by
  obtain ⟨h1, h2, h3, h4⟩ := h
  refine ⟨h1, h2, h3, ?_⟩
  rcases h4 with h4 | ⟨b, off, ha, hc⟩
  · exact Or.inl h4
  · exact Or.inr ⟨b, off, ha, fun i hi => cell_later hb (hc i hi)⟩

set_option maxHeartbeats 400000 in
theorem clonetext_any (a : Option Addr) (t : Option ByteArray) (w : World) (h : PtrTo w a t) :
    Calls Trym.prog 6 #[.pointer a] w fun e w' => ∃ a', e = .returned (.pointer a') ∧ PtrTo w' a' t ∧ Below w.heap.size w w' := by
  rcases h with ⟨rfl, rfl⟩ | ⟨b, off, s, rfl, rfl, hc, hs⟩
  · go_enter Trym.func6, Trym.ntmps6
    go_wp2
    go_ret
    exact ⟨none, rfl, Or.inl ⟨rfl, rfl⟩, Below.refl _ _⟩
  · go_enter Trym.func6, Trym.ntmps6
    go_wp2
    go_ret
    exact ⟨some ⟨w.heap.size, 0, none⟩, rfl, Or.inr ⟨_, _, s, rfl, rfl, by simp, hs⟩, (Below.refl _ _).alloc (Nat.le_refl _) _⟩

/-- What zzTooBigB1 tells. -/
def SmallPost (w : World) (t0 t1 : Option ByteArray) (len : Nat) (ss : List ByteArray) (e : Ending) (w' : World) : Prop :=
  ∃ r, e = .returned (.bool r) ∧ w = w' ∧
      (r = false → len ≤ 65536 ∧ tlen t0 ≤ 1048576 ∧ tlen t1 ≤ 1048576 ∧ ∀ i, i < len → (ss.getD i ByteArray.empty).size ≤ 1048576)

set_option maxHeartbeats 4000000 in
theorem toobig_any (a0 a1 a2 : Option Addr) (t0 t1 : Option ByteArray) (len cap : Nat) (ss : List ByteArray) (w : World) (h0 : PtrTo w a0 t0) (h1 : PtrTo w a1 t1) (h2 : IsStrs w a2 len ss) :
    Calls Trym.prog 5 #[.pointer none, .pointer a0, .pointer a1, .slice a2 len cap] w fun e w' => SmallPost w t0 t1 len ss e w' := by
  obtain ⟨hsz, hle, hmx, hcs⟩ := h2
  by_cases hl : 65536 < len
  · go_enter Trym.func5, Trym.ntmps5
    go_wp2
    go_ret
    exact ⟨true, rfl, rfl, fun h => by cases h⟩
  have hcs' : len < 1 ∨ ∃ b off, a2 = some ⟨b, off, none⟩ ∧ ∀ i, i < len → w.cell? ⟨b, off + i, none⟩ = some (.string (ss.getD i ByteArray.empty)) := by
    rcases hcs with h | h
    · exact Or.inl (by omega)
    · exact Or.inr h
  clear hcs
  rcases hcs' with hz | ⟨b2, o2, rfl, hc2⟩
  all_goals rcases h0 with ⟨rfl, rfl⟩ | ⟨b0, o0, s0, rfl, rfl, hc0, hs0⟩ <;> rcases h1 with ⟨rfl, rfl⟩ | ⟨b1, o1, s1, rfl, rfl, hc1, hs1⟩
  all_goals
    go_enter Trym.func5, Trym.ntmps5
    go_wp2
    all_goals first
      | (go_ret; exact ⟨true, rfl, rfl, fun h => by cases h⟩)
      | (go_loop [9, 10] (fun T i => ∃ (k : Nat) (n : Int), k ≤ len ∧ 0 ≤ n ∧ n ≤ 1048576 ∧ i = .int .i64 k ∧ T = .int .i64 n ∧ Hid (∀ j, j < k → (ss.getD j ByteArray.empty).size ≤ 1048576)) (fun _ i => len - (intOf i).toNat)
         case atStart => exact ⟨0, _, Nat.zero_le _, by omega, by omega, rfl, rfl, fun j hj => absurd hj (Nat.not_lt_zero _)⟩
         case round =>
           obtain ⟨k, n, hk, hn0, hn1, rfl, rfl, H⟩ := hrel
           by_cases hlt : k < len
           · first
               | (exfalso; omega)
               | (have hg := hc2 k hlt
                  have hkl : k < ss.length := by omega
                  have hsk := hsz (ss.getD k ByteArray.empty) (by simp [hkl])
                  generalize hx : ss.getD k ByteArray.empty = x at hg hsk
                  have HX : Hid (ss.getD k ByteArray.empty = x) := hx
                  clear hx hc2 hsz
                  go_wp2
                  all_goals first
                    | (go_ret; exact ⟨true, rfl, rfl, fun h => by cases h⟩)
                    | (go_round
                       case rel => exact ⟨k + 1, n + x.size, by omega, by omega, by omega, by go_num, by go_num, fun j hj => by
                         by_cases e : j = k
                         · subst e; rw [HX.out]; omega
                         · exact H.out j (by omega)⟩
                       case measure => simp [intOf]; omega))
           · go_wp2
             go_ret
             refine ⟨false, rfl, rfl, fun _ => ⟨by omega, by simp [tlen]; try omega, by simp [tlen]; try omega, fun i hi => H.out i (by omega)⟩⟩)

end Go.Proofs.Qxb6603045aMods
