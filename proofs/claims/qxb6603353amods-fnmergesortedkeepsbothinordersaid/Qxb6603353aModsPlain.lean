namespace Go.Proofs.Qxb6603353aMods

/-! ### Plain lists: the merge, and what holds of it. -/
/-- The merge, with fuel. -/
def mrgF : Nat → List Int → List Int → List Int
  | 0, a, b => a ++ b
  | _ + 1, [], b => b
  | _ + 1, x :: a, [] => x :: a
  | k + 1, x :: a, y :: b => if y < x then y :: mrgF k (x :: a) b else x :: mrgF k a (y :: b)

def mrg (a b : List Int) : List Int := mrgF (a.length + b.length) a b

theorem mrg_nil_left (b : List Int) : mrg [] b = b := by
  unfold mrg
  cases b <;> simp [mrgF]

theorem mrg_nil_right (a : List Int) : mrg a [] = a := by
  unfold mrg
  cases a <;> simp [mrgF]

theorem mrg_b (x : Int) (a : List Int) (y : Int) (b : List Int) (h : y < x) : mrg (x :: a) (y :: b) = y :: mrg (x :: a) b := by
  unfold mrg
  rw [show (x :: a).length + (y :: b).length = ((x :: a).length + b.length) + 1 from rfl]
  simp only [mrgF, if_pos h]

theorem mrg_a (x : Int) (a : List Int) (y : Int) (b : List Int) (h : ¬ y < x) : mrg (x :: a) (y :: b) = x :: mrg a (y :: b) := by
  unfold mrg
  rw [show (x :: a).length + (y :: b).length = (a.length + (y :: b).length) + 1 from by simp; omega]
  simp only [mrgF, if_neg h]

theorem mrg_length (n : Nat) : ∀ a b : List Int, a.length + b.length = n → (mrg a b).length = n := by
  induction n with
  | zero =>
    intro a b h
    obtain rfl : a = [] := List.eq_nil_of_length_eq_zero (by omega)
    rw [mrg_nil_left]
    omega
  | succ n ih =>
    intro a b h
    match a, b with
    | [], b => rw [mrg_nil_left]; simpa using h
    | x :: a, [] => rw [mrg_nil_right]; simpa using h
    | x :: a, y :: b =>
      simp only [List.length_cons] at h
      by_cases hyx : y < x
      · rw [mrg_b x a y b hyx, List.length_cons, ih (x :: a) b (by simp; omega)]
      · rw [mrg_a x a y b hyx, List.length_cons, ih a (y :: b) (by simp; omega)]

theorem mrg_sub (n : Nat) : ∀ a b : List Int, a.length + b.length = n → a.Sublist (mrg a b) ∧ b.Sublist (mrg a b) := by
  induction n with
  | zero =>
    intro a b h
    obtain rfl : a = [] := List.eq_nil_of_length_eq_zero (by omega)
    rw [mrg_nil_left]
    exact ⟨List.nil_sublist _, List.Sublist.refl _⟩
  | succ n ih =>
    intro a b h
    match a, b with
    | [], b => rw [mrg_nil_left]; exact ⟨List.nil_sublist _, List.Sublist.refl _⟩
    | x :: a, [] => rw [mrg_nil_right]; exact ⟨List.Sublist.refl _, List.nil_sublist _⟩
    | x :: a, y :: b =>
      simp only [List.length_cons] at h
      by_cases hyx : y < x
      · rw [mrg_b x a y b hyx]
        have := ih (x :: a) b (by simp; omega)
        exact ⟨this.1.cons _, this.2.cons_cons _⟩
      · rw [mrg_a x a y b hyx]
        have := ih a (y :: b) (by simp; omega)
        exact ⟨this.1.cons_cons _, this.2.cons _⟩

/-! ### The greedy search for a part in its order. -/
def gr : List Int → List Int → List Int
  | sub, [] => sub
  | [], _ :: s => gr [] s
  | y :: t, x :: s => if x = y then gr t s else gr (y :: t) s

theorem gr_nil : ∀ s : List Int, gr [] s = []
  | [] => rfl
  | _ :: s => gr_nil s

theorem gr_append : ∀ (s t sub : List Int), gr sub (s ++ t) = gr (gr sub s) t
  | [], t, sub => by cases sub <;> rfl
  | x :: s, t, [] => by
    show gr [] (s ++ t) = gr (gr [] s) t
    exact gr_append s t []
  | x :: s, t, y :: u => by
    show (if x = y then gr u (s ++ t) else gr (y :: u) (s ++ t)) = gr (if x = y then gr u s else gr (y :: u) s) t
    by_cases h : x = y
    · rw [if_pos h, if_pos h]; exact gr_append s t u
    · rw [if_neg h, if_neg h]; exact gr_append s t (y :: u)

theorem gr_sub : ∀ (s sub : List Int), sub.Sublist s → gr sub s = []
  | s, [], _ => gr_nil s
  | [], y :: t, h => by cases h
  | x :: s, y :: t, h => by
    show (if x = y then gr t s else gr (y :: t) s) = []
    by_cases e : x = y
    · subst e
      rw [if_pos rfl]
      exact gr_sub s t (List.cons_sublist_cons.1 h)
    · rw [if_neg e]
      refine gr_sub s (y :: t) ?_
      cases h with
      | cons _ h => exact h
      | cons_cons _ h => exact absurd rfl e

/-- One step of the search, by places. -/
theorem gr_step (sub s : List Int) (k m : Nat) (hk : k < s.length) (h : gr sub (s.take k) = sub.drop m) (hm : m < sub.length) :
    gr sub (s.take (k + 1)) = if s.getD k 0 = sub.getD m 0 then sub.drop (m + 1) else sub.drop m := by
  rw [List.take_succ_eq_append_getElem hk, gr_append, h, List.drop_eq_getElem_cons hm]
  show (if s[k] = sub[m] then gr (sub.drop (m + 1)) [] else gr (sub[m] :: sub.drop (m + 1)) []) = _
  have e1 : s.getD k 0 = s[k] := by simp [List.getD_eq_getElem?_getD, hk]
  have e2 : sub.getD m 0 = sub[m] := by simp [List.getD_eq_getElem?_getD, hm]
  rw [e1, e2]
  have e3 : ∀ l : List Int, gr l [] = l := fun l => by cases l <;> rfl
  rw [e3, e3]

theorem gr_done (sub s : List Int) (k m : Nat) (hk : k < s.length) (h : gr sub (s.take k) = sub.drop m) (hm : ¬ m < sub.length) : gr sub (s.take (k + 1)) = sub.drop m := by
  rw [List.take_succ_eq_append_getElem hk, gr_append, h, List.drop_of_length_le (by omega)]
  rfl

/-! ### Places by rank. -/
/-- In order. -/
def Srt (l : List Int) : Prop := l.Pairwise (· ≤ ·)

theorem srt_of (l : List Int) : ∀ (_ : ∀ k, 1 ≤ k → k < l.length → l.getD (k - 1) 0 ≤ l.getD k 0), Srt l := by
  unfold Srt
  induction l with
  | nil => intro _; exact List.Pairwise.nil
  | cons x l ih =>
    intro h
    have hl := ih (fun k h1 h2 => by
      have := h (k + 1) (by omega) (by simp; omega)
      obtain ⟨j, rfl⟩ : ∃ j, k = j + 1 := ⟨k - 1, by omega⟩
      simpa using this)
    refine List.pairwise_cons.2 ⟨?_, hl⟩
    intro z hz
    cases l with
    | nil => cases hz
    | cons y l =>
      have hxy : x ≤ y := by simpa using h 1 (by omega) (by simp)
      rcases List.mem_cons.1 hz with rfl | hz
      · exact hxy
      · exact Int.le_trans hxy ((List.pairwise_cons.1 hl).1 z hz)

theorem rank_a (n : Nat) : ∀ a b : List Int, a.length + b.length = n → Srt a → Srt b → ∀ i r, i < a.length → r ≤ b.length →
    (∀ j, j < r → b.getD j 0 < a.getD i 0) → (∀ j, r ≤ j → j < b.length → a.getD i 0 ≤ b.getD j 0) → (mrg a b).getD (i + r) 0 = a.getD i 0 := by
  induction n with
  | zero => intro a b h _ _ i r hi; omega
  | succ n ih =>
    intro a b h ha hb i r hi hr h1 h2
    match a, b with
    | [], b => simp at hi
    | x :: a, [] =>
      obtain rfl : r = 0 := by simpa using hr
      rw [mrg_nil_right]
      rfl
    | x :: a, y :: b =>
      simp only [List.length_cons] at h
      by_cases hyx : y < x
      · rw [mrg_b x a y b hyx]
        obtain ⟨s, rfl⟩ : ∃ s, r = s + 1 := by
          cases r with
          | succ s => exact ⟨s, rfl⟩
          | zero =>
            exfalso
            have hlow := h2 0 (by omega) (by simp)
            simp only [List.getD_cons_zero] at hlow
            have hx : x ≤ (x :: a).getD i 0 := by
              cases i with
              | zero => simp
              | succ i =>
                have hi' : i < a.length := by simpa using hi
                simp only [List.getD_cons_succ]
                rw [List.getD_eq_getElem?_getD, List.getElem?_eq_getElem hi']
                exact (List.pairwise_cons.1 ha).1 _ (List.getElem_mem hi')
            omega
        rw [show i + (s + 1) = (i + s) + 1 from by omega, List.getD_cons_succ]
        refine ih (x :: a) b (by simp; omega) ha (List.pairwise_cons.1 hb).2 i s hi (by simpa using hr) ?_ ?_
        · intro j hj
          have := h1 (j + 1) (by omega)
          simpa using this
        · intro j hj hj'
          have := h2 (j + 1) (by omega) (by simp; omega)
          simpa using this
      · rw [mrg_a x a y b hyx]
        cases i with
        | zero =>
          cases r with
          | zero => simp
          | succ s =>
            exfalso
            have := h1 0 (by omega)
            simp at this
            omega
        | succ i =>
          rw [show i + 1 + r = (i + r) + 1 from by omega, List.getD_cons_succ, List.getD_cons_succ]
          exact ih a (y :: b) (by simp; omega) (List.pairwise_cons.1 ha).2 hb i r (by simpa using hi) hr (fun j hj => by simpa using h1 j hj) (fun j hj hj' => by simpa using h2 j hj hj')

theorem rank_b (n : Nat) : ∀ a b : List Int, a.length + b.length = n → Srt a → Srt b → ∀ j r, j < b.length → r ≤ a.length →
    (∀ i, i < r → a.getD i 0 ≤ b.getD j 0) → (∀ i, r ≤ i → i < a.length → b.getD j 0 < a.getD i 0) → (mrg a b).getD (j + r) 0 = b.getD j 0 := by
  induction n with
  | zero => intro a b h _ _ j r hj; omega
  | succ n ih =>
    intro a b h ha hb j r hj hr h1 h2
    match a, b with
    | [], b =>
      obtain rfl : r = 0 := by simpa using hr
      rw [mrg_nil_left]
      rfl
    | x :: a, [] => simp at hj
    | x :: a, y :: b =>
      simp only [List.length_cons] at h
      by_cases hyx : y < x
      · rw [mrg_b x a y b hyx]
        cases j with
        | zero =>
          cases r with
          | zero => simp
          | succ s =>
            exfalso
            have := h1 0 (by omega)
            simp at this
            omega
        | succ j =>
          rw [show j + 1 + r = (j + r) + 1 from by omega, List.getD_cons_succ, List.getD_cons_succ]
          exact ih (x :: a) b (by simp; omega) ha (List.pairwise_cons.1 hb).2 j r (by simpa using hj) hr (fun i hi => by simpa using h1 i hi) (fun i hi hi' => by simpa using h2 i hi hi')
      · rw [mrg_a x a y b hyx]
        obtain ⟨s, rfl⟩ : ∃ s, r = s + 1 := by
          cases r with
          | succ s => exact ⟨s, rfl⟩
          | zero =>
            exfalso
            have hlow := h2 0 (by omega) (by simp)
            simp only [List.getD_cons_zero] at hlow
            have hy : y ≤ (y :: b).getD j 0 := by
              cases j with
              | zero => simp
              | succ j =>
                have hj' : j < b.length := by simpa using hj
                simp only [List.getD_cons_succ]
                rw [List.getD_eq_getElem?_getD, List.getElem?_eq_getElem hj']
                exact (List.pairwise_cons.1 hb).1 _ (List.getElem_mem hj')
            omega
        rw [show j + (s + 1) = (j + s) + 1 from by omega, List.getD_cons_succ]
        refine ih a (y :: b) (by simp; omega) (List.pairwise_cons.1 ha).2 hb j s hj (by simpa using hr) ?_ ?_
        · intro i hi
          have := h1 (i + 1) (by omega)
          simpa using this
        · intro i hi hi'
          have := h2 (i + 1) (by omega) (by simp; omega)
          simpa using this

end Go.Proofs.Qxb6603353aMods
