import Derived.Test.Qxb6603045aModsLeaf
namespace Go.Proofs.Qxb6603045aMods
open Go.RowKit
set_option linter.unusedVariables false

theorem Trym.info9 : (Trym.prog.info? 9).map (fun i => (i.zero, i.size, i.bytes)) = some (some (.string ByteArray.empty), 1, 16) := by kernel_rfl

def AnyBool (w : World) (e : Ending) (w' : World) : Prop := ∃ r, e = .returned (.bool r) ∧ w = w'

set_option maxHeartbeats 4000000 in
theorem bytes_any (a0 a1 a2 : Option Addr) (t0 t1 : Option ByteArray) (len cap : Nat) (ss : List ByteArray) (i j : Int) (w : World) (h0 : PtrTo w a0 t0) (h1 : PtrTo w a1 t1) (h2 : IsStrs w a2 len ss) :
    Calls Trym.prog 4 #[.pointer a0, .pointer a1, .slice a2 len cap, .int .i64 i, .int .i64 j] w fun e w' => AnyBool w e w' := by
  obtain ⟨hsz, hle, hmx, hcs⟩ := h2
  have hcs' : len < 1 ∨ ∃ b off, a2 = some ⟨b, off, none⟩ ∧ ∀ i, i < len → w.cell? ⟨b, off + i, none⟩ = some (.string (ss.getD i ByteArray.empty)) := by
    rcases hcs with h | h
    · exact Or.inl (by omega)
    · exact Or.inr h
  clear hcs
  rcases hcs' with hz | ⟨b2, o2, rfl, hc2⟩
  all_goals rcases h0 with ⟨rfl, rfl⟩ | ⟨b0, o0, s0, rfl, rfl, hc0, hs0⟩ <;> rcases h1 with ⟨rfl, rfl⟩ | ⟨b1, o1, s1, rfl, rfl, hc1, hs1⟩
  all_goals
    go_enter Trym.func4, Trym.ntmps4
    go_wp2
    all_goals first
      | (go_ret; exact ⟨_, rfl, rfl⟩)
      | (go_loop [11, 12] (fun T i => ∃ (k : Nat) (n : Int), k ≤ len ∧ 0 ≤ n ∧ n ≤ 1048576 ∧ i = .int .i64 k ∧ T = .int .i64 n) (fun _ i => len - (intOf i).toNat)
         case atStart => exact ⟨0, _, Nat.zero_le _, by omega, by omega, rfl, rfl⟩
         case round =>
           obtain ⟨k, n, hk, hn0, hn1, rfl, rfl⟩ := hrel
           by_cases hlt : k < len
           · first
               | (exfalso; omega)
               | (have hg := hc2 k hlt
                  have hkl : k < ss.length := by omega
                  have hsk := hsz (ss.getD k ByteArray.empty) (by simp [hkl])
                  generalize hx : ss.getD k ByteArray.empty = x at hg hsk
                  clear hx hc2 hsz
                  go_wp2
                  all_goals first
                    | (go_ret; exact ⟨_, rfl, rfl⟩)
                    | (go_round
                       case rel => exact ⟨k + 1, n + x.size, by omega, by omega, by omega, by go_num, by go_num⟩
                       case measure => simp [intOf]; omega))
           · go_wp2
             go_ret
             exact ⟨_, rfl, rfl⟩)

set_option maxHeartbeats 4000000 in
theorem cloneroots_any (b2 o2 : Nat) (len cap : Nat) (ss : List ByteArray) (w : World) (hl : len ≤ 65536)
    (hc2 : ∀ i, i < len → w.cell? ⟨b2, o2 + i, none⟩ = some (.string (ss.getD i ByteArray.empty))) (hb2 : b2 < w.heap.size) :
    Calls Trym.prog 7 #[.slice (some ⟨b2, o2, none⟩) len cap] w fun e w' => e = .returned (.slice (some ⟨w.heap.size, 0, none⟩) len len) ∧
      (∀ i, i < len → w'.cell? ⟨w.heap.size, i, none⟩ = some (.string (ss.getD i ByteArray.empty))) ∧ Below w.heap.size w w' := by
  obtain ⟨i0, hi, hz0, hz1, hz2⟩ := info_parts Trym.info9
  have q23 : ∀ (w : World) (a : Option Addr) (n c n' c' : Nat), (binOp .eql 23 (.slice a n c) (.slice none n' c')).run Trym.prog w = .ok (.bool a.isNone) w := fun w a n c n' c' => Lib.run_eql_slice_nil w 23 9 a n c n' c' Trym.underlying23
  go_enter Trym.func7, Trym.ntmps7
  go_wp2_with (at_make; refine wpList_make_full _ rfl _ _ 23 rfl w.heap.size 9 i0 (.string ByteArray.empty) 1 Trym.underlying23 hi hz0 hz1 _ _ _ _ len rfl rfl rfl rfl ?b2 ?b3 (Nat.le_refl _) ?_)
  case b2 => rw [hz2]; omega
  case b3 => unfold maxLen; omega
  intro w0 hown0 hgrow0
  go_wp2
  go_loopw [4] (fun i wr => ∃ (k : Nat) (xs : List Value), k ≤ len ∧ i = .int .i64 k ∧ wr.ownsRow w.heap.size 9 1 (.slice (some ⟨w.heap.size, 0, none⟩) len len) len xs ∧
      (∀ j, j < k → xs[j]? = some (.string (ss.getD j ByteArray.empty))) ∧ Below w.heap.size w wr)
    (fun i _ => len - (intOf i).toNat)
  case atStart => exact ⟨0, _, Nat.zero_le _, rfl, hown0, fun j hj => absurd hj (Nat.not_lt_zero _), (Below.refl _ _).grown hgrow0 (Nat.le_refl _) (fun k h => by cases h)⟩
  case round =>
    obtain ⟨k, xs, hk, rfl, hown, hxs, hnx⟩ := hrel
    by_cases hlt : k < len
    · have hg : wr.cell? ⟨b2, o2 + k, none⟩ = some (.string (ss.getD k ByteArray.empty)) := (hnx.cell (by exact hb2)).trans (hc2 k hlt)
      have hxl : xs.length = len := by simpa using hown.1
      obtain ⟨v, hv⟩ : ∃ v, xs[k]? = some v := ⟨xs[k], List.getElem?_eq_getElem (by omega)⟩
      have hold : wr.cell? ⟨w.heap.size, k, none⟩ = some v := (hown.cellAt k (by omega)).trans hv
      have hfz : wr.frozen? ⟨w.heap.size, k, none⟩ = false := hown.frozenAt k
      have hst := hown.stored k (.string (ss.getD k ByteArray.empty))
      have HX : Hid (∀ j, j < k → xs[j]? = some (.string (ss.getD j ByteArray.empty))) := hxs
      have HS : Hid _ := hst
      have HO : Hid _ := hown
      generalize hx : ss.getD k ByteArray.empty = x at hg HS
      have HE : Hid (ss.getD k ByteArray.empty = x) := hx
      clear hxs hst hown hx hc2 hv hown0 hgrow0
      go_wp2
      go_roundw
      case rel =>
        refine ⟨k + 1, _, by omega, by go_num, HS.out.1, ?_, hnx.grown HS.out.2 hnx.size (fun j hj => by cases hj; exact Nat.le_refl _)⟩
        intro j hj
        by_cases e : j = k
        · subst e; rw [List.getElem?_set, if_pos rfl, if_pos (by omega), HE.out]
        · rw [List.getElem?_set, if_neg (by omega)]; exact HX.out j (by omega)
      case measure => simp [intOf]; omega
    · go_wp2
      go_ret
      obtain rfl : k = len := by omega
      exact ⟨rfl, fun i hi => (hown.cellAt i (by omega)).trans (hxs i hi), hnx⟩

end Go.Proofs.Qxb6603045aMods
