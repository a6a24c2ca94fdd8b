import Derived.Test.Qxb6603158aModsParse
namespace Go.Proofs.Qxb6603158aMods
open Go.RowKit
set_option linter.unusedVariables false

/-! ### The plain law: where the parts of the answer lie. -/
def laid (xs is vs : List Int) (a b d0 d1 d2 d3 d4 d5 d6 d7 cf : Int) : List Int := xs ++ [0, 1, a, b] ++ is ++ vs ++ [d0, d1, d2, d3, d4, d5, d6, d7] ++ [cf]

theorem at_append (A B : List Int) (k j : Nat) (hk : A.length = k) : (A ++ B)[k + j]? = B[j]? := by
  subst hk
  rw [List.getElem?_append_right (by omega), Nat.add_sub_cancel_left]

section
variable (xs is vs : List Int) (a b d0 d1 d2 d3 d4 d5 d6 d7 cf : Int) (n ni nv : Nat) (hx : xs.length = n) (hi : is.length = ni) (hv : vs.length = nv)

theorem laid_eq : laid xs is vs a b d0 d1 d2 d3 d4 d5 d6 d7 cf = xs ++ ([0, 1, a, b] ++ (is ++ (vs ++ [d0, d1, d2, d3, d4, d5, d6, d7, cf]))) := by simp [laid]

theorem laid_head (j : Nat) (hj : j < xs.length) : (laid xs is vs a b d0 d1 d2 d3 d4 d5 d6 d7 cf)[j]? = xs[j]? := by
  rw [laid_eq, List.getElem?_append_left hj]

theorem laid_mark (j : Nat) (hj : j < 4) (hx : xs.length = n) : (laid xs is vs a b d0 d1 d2 d3 d4 d5 d6 d7 cf)[n + j]? = [0, 1, a, b][j]? := by
  rw [laid_eq, at_append _ _ _ _ hx, List.getElem?_append_left (by simpa using hj)]

theorem laid_id (j : Nat) (hx : xs.length = n) (hj : j < is.length) : (laid xs is vs a b d0 d1 d2 d3 d4 d5 d6 d7 cf)[n + 4 + j]? = is[j]? := by
  rw [laid_eq, Nat.add_assoc, at_append _ _ _ _ hx, at_append _ _ 4 _ rfl, List.getElem?_append_left hj]

theorem laid_value (j : Nat) (hx : xs.length = n) (hi : is.length = ni) (hj : j < vs.length) : (laid xs is vs a b d0 d1 d2 d3 d4 d5 d6 d7 cf)[n + 4 + ni + j]? = vs[j]? := by
  rw [laid_eq, show n + 4 + ni + j = n + (4 + (ni + j)) from by omega, at_append _ _ _ _ hx, at_append _ _ 4 _ rfl, at_append _ _ _ _ hi, List.getElem?_append_left hj]

theorem laid_tail (j : Nat) (hx : xs.length = n) (hi : is.length = ni) (hv : vs.length = nv) : (laid xs is vs a b d0 d1 d2 d3 d4 d5 d6 d7 cf)[n + 4 + ni + nv + j]? = [d0, d1, d2, d3, d4, d5, d6, d7, cf][j]? := by
  rw [laid_eq, show n + 4 + ni + nv + j = n + (4 + (ni + (nv + j))) from by omega, at_append _ _ _ _ hx, at_append _ _ 4 _ rfl, at_append _ _ _ _ hi, at_append _ _ _ _ hv]
end

theorem getD_of {L : List Int} {j : Nat} {M : List Int} {i : Nat} (h : L[j]? = M[i]?) (hi : i < M.length) : (L.map (Value.int .u8))[j]? = some (.int .u8 (M.getD i 0)) := by
  rw [List.getElem?_map, h, List.getD_eq_getElem?_getD, List.getElem?_eq_getElem hi]
  rfl

theorem val_of {L : List Int} {j : Nat} {x : Int} (h : L[j]? = some x) : (L.map (Value.int .u8))[j]? = some (.int .u8 x) := by
  rw [List.getElem?_map, h]
  rfl

theorem Own.below {w w' : World} {B : Nat} {a : Option Addr} {n : Nat} {xs : List Int} (h : Own w B a n xs) (hb : Below w.heap.size w w') : Own w' B a n xs := by
  rcases h with h | ⟨h1, h2, h3⟩
  · exact Or.inl h
  · exact Or.inr ⟨h1, Nat.lt_of_lt_of_le h2 hb.size, fun i hi => cell_later hb (h3 i hi)⟩

theorem Own.src {w : World} {B : Nat} {a : Option Addr} {n : Nat} {xs : List Int} (h : Own w B a n xs) (hx : xs.length = n) : Src w a n xs := by
  refine ⟨hx, ?_⟩
  rcases h with ⟨_, h⟩ | ⟨h1, h2, h3⟩
  · exact Or.inl (by omega)
  · exact Or.inr ⟨B, 0, h1, fun i hi => by rw [Nat.zero_add]; exact h3 i hi⟩

theorem row_form {w : World} {base : Nat} {v : Value} {n : Nat} {ys : List Value} (h : w.ownsRow base 5 1 v n ys) (hn : 0 < n) :
    ∃ g cap, v = .slice (some ⟨g, 0, none⟩) n cap ∧ n ≤ cap ∧ g < w.heap.size ∧ cap ≤ 9223372036854775807 ∧ ∀ j, j < n → w.cell? ⟨g, j, none⟩ = ys[j]? := by
  rcases h.2 with ⟨_, h'⟩ | ⟨g, cap, cur, rfl, hb, hg, hnc, hcm, _⟩
  · omega
  · exact ⟨g, cap, rfl, hnc, (Array.getElem?_eq_some_iff.1 hg).1, hcm, fun j hj => h.cellAt j (by omega)⟩

/-- The nonce as it lies in a block of its own. -/
def Non (w : World) (b : Nat) (d0 d1 d2 d3 d4 d5 d6 d7 : Int) : Prop := w.heap[b]? = some (.cells #[.int .u8 d0, .int .u8 d1, .int .u8 d2, .int .u8 d3, .int .u8 d4, .int .u8 d5, .int .u8 d6, .int .u8 d7] 23 (0, 0))

theorem Non.below {w w' : World} {b : Nat} {d0 d1 d2 d3 d4 d5 d6 d7 : Int} (h : Non w b d0 d1 d2 d3 d4 d5 d6 d7) (hb : Below w.heap.size w w') : Non w' b d0 d1 d2 d3 d4 d5 d6 d7 := by
  have : b < w.heap.size := (Array.getElem?_eq_some_iff.1 h).1
  unfold Non
  rw [hb.block b this]
  exact h

theorem Non.cells {w : World} {b : Nat} {d0 d1 d2 d3 d4 d5 d6 d7 : Int} (h : Non w b d0 d1 d2 d3 d4 d5 d6 d7) :
    w.cell? ⟨b, 0, none⟩ = some (.int .u8 d0) ∧ w.cell? ⟨b, 1, none⟩ = some (.int .u8 d1) ∧ w.cell? ⟨b, 2, none⟩ = some (.int .u8 d2) ∧ w.cell? ⟨b, 3, none⟩ = some (.int .u8 d3) ∧
    w.cell? ⟨b, 4, none⟩ = some (.int .u8 d4) ∧ w.cell? ⟨b, 5, none⟩ = some (.int .u8 d5) ∧ w.cell? ⟨b, 6, none⟩ = some (.int .u8 d6) ∧ w.cell? ⟨b, 7, none⟩ = some (.int .u8 d7) := by
  refine ⟨?_, ?_, ?_, ?_, ?_, ?_, ?_, ?_⟩ <;> (rw [cell_of_row w b _ _ _ _ h]; rfl)

end Go.Proofs.Qxb6603158aMods
