import Derived.Test.Qxb6603353aModsLeaf
namespace Go.Proofs.Qxb6603353aMods
open Go.RowKit
set_option linter.unusedVariables false

theorem drew2 (w : World) (q m : Nat) : (w.drewN q).drewN m = w.drewN (q + m) := by simp

/-- What nondecreasing tells. -/
def NonPost (w : World) (xs : List Int) (e : Ending) (w' : World) : Prop := ∃ r q, e = .returned (.bool r) ∧ w' = w.drewN q ∧ (r = true → Srt xs)

set_option maxHeartbeats 1000000 in
/-- In order, or not; reads alone. -/
theorem nondec_any (a : Option Addr) (n c : Nat) (xs : List Int) (w : World) (h : Src w a n xs) (hl : n ≤ 65536) :
    Calls Trym.prog 7 #[.slice a n c] w fun e w' => NonPost w xs e w' := by
  obtain ⟨hxl, hcs⟩ := h
  have HX : Hid (xs.length = n) := hxl
  clear hxl
  rcases hcs with hz | ⟨b, off, rfl, hc⟩
  all_goals
    go_enter Trym.func7, Trym.ntmps7
    go_wp2
    go_loopw [3] (fun i wr => ∃ m q : Nat, (m < n ∨ m = 0) ∧ i = .int .i64 ((m : Int) + 1) ∧ wr = w.drewN q ∧ Hid (∀ j, 1 ≤ j → j < m + 1 → xs.getD (j - 1) 0 ≤ xs.getD j 0)) (fun i _ => n - (intOf i).toNat)
    case atStart => exact ⟨0, 0, Or.inr rfl, rfl, rfl, fun j h1 h2 => absurd h2 (by omega)⟩
    case round =>
      obtain ⟨m, q, hm, rfl, rfl, H⟩ := hrel
      by_cases hlt : m + 1 < n
      · first
          | (exfalso; omega)
          | (have g1 := hc m (by omega)
             have g2 := hc (m + 1) (by omega)
             have hlt' : (m : Int) + 1 < (n : Int) := by omega
             have hlt2 : (m : Int) < (n : Int) := by omega
             generalize hx : xs.getD m 0 = x at g1
             generalize hy : xs.getD (m + 1) 0 = y at g2
             have HA : Hid (xs.getD m 0 = x) := hx
             have HB : Hid (xs.getD (m + 1) 0 = y) := hy
             clear hc hx hy hm
             go_wp2
             go_quiet (fail)
             go_wp2
             all_goals first
               | (go_ret; exact ⟨false, _, rfl, drew2 _ _ _, fun h => by cases h⟩)
               | (go_roundw
                  case rel => exact ⟨m + 1, _, Or.inl hlt, by go_num, rfl, fun j h1 h2 => by
                    by_cases e : j = m + 1
                    · subst e; rw [Nat.add_sub_cancel, HA.out, HB.out]; omega
                    · exact H.out j h1 (by omega)⟩
                  case measure => simp [intOf]; omega))
      · have hge : ¬ (m : Int) + 1 < (n : Int) := by omega
        go_wp2
        go_ret
        exact ⟨true, q, rfl, rfl, fun _ => srt_of xs (fun k h1 h2 => H.out k h1 (by rw [HX.out] at h2; omega))⟩

/-- What countLess tells: where x would stand. -/
def LessPost (w : World) (xs : List Int) (x : Int) (e : Ending) (w' : World) : Prop :=
  ∃ r : Nat, e = .returned (.int .i64 r) ∧ w = w' ∧ r ≤ xs.length ∧ (∀ j, j < r → xs.getD j 0 < x) ∧ (∀ j, r ≤ j → j < xs.length → x ≤ xs.getD j 0)

def MostPost (w : World) (xs : List Int) (x : Int) (e : Ending) (w' : World) : Prop :=
  ∃ r : Nat, e = .returned (.int .i64 r) ∧ w = w' ∧ r ≤ xs.length ∧ (∀ j, j < r → xs.getD j 0 ≤ x) ∧ (∀ j, r ≤ j → j < xs.length → x < xs.getD j 0)

theorem srt_le {xs : List Int} (h : Srt xs) {i j : Nat} (hij : i ≤ j) (hj : j < xs.length) : xs.getD i 0 ≤ xs.getD j 0 := by
  rw [List.getD_eq_getElem?_getD, List.getD_eq_getElem?_getD, List.getElem?_eq_getElem (by omega), List.getElem?_eq_getElem hj]
  by_cases e : i = j
  · subst e; exact Int.le_refl _
  · exact List.pairwise_iff_getElem.1 h i j (by omega) hj (by omega)

set_option maxHeartbeats 1000000 in
theorem less_any (a : Option Addr) (n c : Nat) (xs : List Int) (x : Int) (w : World) (h : Src w a n xs) (hs : Srt xs) (hl : n ≤ 65536) :
    Calls Trym.prog 10 #[.slice a n c, .int .u64 x] w fun e w' => LessPost w xs x e w' := by
  obtain ⟨hxl, hcs⟩ := h
  have HX : Hid (xs.length = n) := hxl
  clear hxl
  rcases hcs with hz | ⟨b, off, rfl, hc⟩
  all_goals
    go_enter Trym.func10, Trym.ntmps10
    go_wp2
    go_loop [5, 6] (fun l h => ∃ lo hi : Nat, lo ≤ hi ∧ hi ≤ n ∧ l = .int .i64 lo ∧ h = .int .i64 hi ∧ Hid (∀ j, j < lo → xs.getD j 0 < x) ∧ Hid (∀ j, hi ≤ j → j < n → x ≤ xs.getD j 0)) (fun l h => (intOf h - intOf l).toNat)
    case atStart => exact ⟨0, n, Nat.zero_le _, Nat.le_refl _, rfl, rfl, fun j hj => absurd hj (Nat.not_lt_zero _), fun j h1 h2 => absurd h1 (by omega)⟩
    case round =>
      obtain ⟨lo, hi, hlh, hhn, rfl, rfl, HL, HH⟩ := hrel
      by_cases hlt : lo < hi
      · first
          | (exfalso; omega)
          | (have hmid : lo + (hi - lo) / 2 < hi := by omega
             have hge := hc (lo + (hi - lo) / 2) (by omega)
             have HS : Hid (Srt xs) := hs
             generalize hg : xs.getD (lo + (hi - lo) / 2) 0 = y at hge
             have HG : Hid (xs.getD (lo + (hi - lo) / 2) 0 = y) := hg
             clear hc hg
             go_wp2
             · go_round
               case rel =>
                 exact ⟨lo + (hi - lo) / 2 + 1, hi, by omega, hhn, by go_num, rfl, fun j hj => by
                   have h1 := srt_le HS.out (show j ≤ lo + (hi - lo) / 2 by omega) (by rw [HX.out]; omega)
                   rw [HG.out] at h1
                   omega, HH⟩
               case measure => simp only [intOf]; omega
             · go_round
               case rel =>
                 exact ⟨lo, lo + (hi - lo) / 2, by omega, by omega, rfl, by go_num, HL, fun j h1 h2 => by
                   have h3 := srt_le HS.out h1 (by rw [HX.out]; omega)
                   rw [HG.out] at h3
                   omega⟩
               case measure => simp only [intOf]; omega)
      · go_wp2
        go_ret
        obtain rfl : lo = hi := by omega
        exact ⟨lo, rfl, rfl, by rw [HX.out]; omega, HL.out, fun j h1 h2 => HH.out j h1 (by rw [HX.out] at h2; exact h2)⟩

set_option maxHeartbeats 1000000 in
theorem most_any (a : Option Addr) (n c : Nat) (xs : List Int) (x : Int) (w : World) (h : Src w a n xs) (hs : Srt xs) (hl : n ≤ 65536) :
    Calls Trym.prog 11 #[.slice a n c, .int .u64 x] w fun e w' => MostPost w xs x e w' := by
  obtain ⟨hxl, hcs⟩ := h
  have HX : Hid (xs.length = n) := hxl
  clear hxl
  rcases hcs with hz | ⟨b, off, rfl, hc⟩
  all_goals
    go_enter Trym.func11, Trym.ntmps11
    go_wp2
    go_loop [5, 6] (fun l h => ∃ lo hi : Nat, lo ≤ hi ∧ hi ≤ n ∧ l = .int .i64 lo ∧ h = .int .i64 hi ∧ Hid (∀ j, j < lo → xs.getD j 0 ≤ x) ∧ Hid (∀ j, hi ≤ j → j < n → x < xs.getD j 0)) (fun l h => (intOf h - intOf l).toNat)
    case atStart => exact ⟨0, n, Nat.zero_le _, Nat.le_refl _, rfl, rfl, fun j hj => absurd hj (Nat.not_lt_zero _), fun j h1 h2 => absurd h1 (by omega)⟩
    case round =>
      obtain ⟨lo, hi, hlh, hhn, rfl, rfl, HL, HH⟩ := hrel
      by_cases hlt : lo < hi
      · first
          | (exfalso; omega)
          | (have hmid : lo + (hi - lo) / 2 < hi := by omega
             have hge := hc (lo + (hi - lo) / 2) (by omega)
             have HS : Hid (Srt xs) := hs
             generalize hg : xs.getD (lo + (hi - lo) / 2) 0 = y at hge
             have HG : Hid (xs.getD (lo + (hi - lo) / 2) 0 = y) := hg
             clear hc hg
             go_wp2
             · go_round
               case rel =>
                 exact ⟨lo + (hi - lo) / 2 + 1, hi, by omega, hhn, by go_num, rfl, fun j hj => by
                   have h1 := srt_le HS.out (show j ≤ lo + (hi - lo) / 2 by omega) (by rw [HX.out]; omega)
                   rw [HG.out] at h1
                   omega, HH⟩
               case measure => simp only [intOf]; omega
             · go_round
               case rel =>
                 exact ⟨lo, lo + (hi - lo) / 2, by omega, by omega, rfl, by go_num, HL, fun j h1 h2 => by
                   have h3 := srt_le HS.out h1 (by rw [HX.out]; omega)
                   rw [HG.out] at h3
                   omega⟩
               case measure => simp only [intOf]; omega)
      · go_wp2
        go_ret
        obtain rfl : lo = hi := by omega
        exact ⟨lo, rfl, rfl, by rw [HX.out]; omega, HL.out, fun j h1 h2 => HH.out j h1 (by rw [HX.out] at h2; exact h2)⟩

/-- What isSubsequence tells of a part of its own row. -/
def SubPost (w : World) (e : Ending) (w' : World) : Prop := ∃ q, e = .returned (.bool true) ∧ w' = w.drewN q

set_option maxHeartbeats 1000000 in
theorem issub_any (a b : Option Addr) (n ca m cb : Nat) (xs ys : List Int) (w : World) (ha : Src w a n xs) (hb : Src w b m ys) (hn : n ≤ 65536) (hm : m ≤ 131072) (hsub : xs.Sublist ys) :
    Calls Trym.prog 15 #[.slice a n ca, .slice b m cb] w fun e w' => SubPost w e w' := by
  have HF : Hid (gr xs ys = []) := gr_sub ys xs hsub
  obtain ⟨hxl, has⟩ := ha
  obtain ⟨hyl, hbs⟩ := hb
  have HX : Hid (xs.length = n) := hxl
  have HY : Hid (ys.length = m) := hyl
  clear hxl hyl hsub
  rcases has with hz | ⟨b1, o1, rfl, hc1⟩ <;> rcases hbs with hz2 | ⟨b2, o2, rfl, hc2⟩
  all_goals
    go_enter Trym.func15, Trym.ntmps15
    go_wp2
    go_loopw [5, 6] (fun j i wr => ∃ l k q : Nat, l ≤ n ∧ k ≤ m ∧ j = .int .i64 l ∧ i = .int .i64 k ∧ wr = w.drewN q ∧ Hid (gr xs (ys.take k) = xs.drop l)) (fun _ i _ => m - (intOf i).toNat)
    case atStart => exact ⟨0, 0, 0, Nat.zero_le _, Nat.zero_le _, rfl, rfl, rfl, by show gr xs [] = xs; cases xs <;> rfl⟩
    case round =>
      obtain ⟨l, k, q, hl, hk, rfl, rfl, rfl, HG⟩ := hrel
      by_cases hlt : k < m
      · first
          | (exfalso; omega)
          | (have hlt' : (k : Int) < (m : Int) := by omega
             by_cases hln : l < n
             · first
                 | (exfalso; omega)
                 | (have hln' : (l : Int) < (n : Int) := by omega
                    have g1 := hc1 l hln
                    have g2 := hc2 k hlt
                    have HT : Hid _ := gr_step xs ys k l (by rw [HY.out]; exact hlt) HG.out (by rw [HX.out]; exact hln)
                    generalize xs.getD l 0 = x at g1 HT
                    generalize ys.getD k 0 = y at g2 HT
                    clear hc1 hc2
                    by_cases hxy : y = x
                    · have hbe : (y == x) = true := by simpa using hxy
                      have HR : Hid (gr xs (ys.take (k + 1)) = xs.drop (l + 1)) := by rw [if_pos hxy] at HT; exact HT
                      clear hxy HT
                      go_wp2
                      go_quiet (fail)
                      go_wp2
                      go_roundw
                      case rel => exact ⟨l + 1, k + 1, _, by omega, by omega, by go_num, by go_num, rfl, HR⟩
                      case measure => simp [intOf]; omega
                    · have hbe : (y == x) = false := by simpa using hxy
                      have HR : Hid (gr xs (ys.take (k + 1)) = xs.drop l) := by rw [if_neg hxy] at HT; exact HT
                      clear hxy HT
                      go_wp2
                      go_quiet (fail)
                      go_wp2
                      go_roundw
                      case rel => exact ⟨l, k + 1, _, by omega, by omega, rfl, by go_num, rfl, HR⟩
                      case measure => simp [intOf]; omega)
             · have hd : decide ((l : Int) < (n : Int)) = false := by simp; omega
               have HR : Hid (gr xs (ys.take (k + 1)) = xs.drop l) := gr_done xs ys k l (by rw [HY.out]; exact hlt) HG.out (by rw [HX.out]; exact hln)
               go_wp2
               go_quiet (fail)
               go_wp2
               go_roundw
               case rel => exact ⟨l, k + 1, _, by omega, by omega, rfl, by go_num, rfl, HR⟩
               case measure => simp [intOf]; omega)
      · have hfin : Hid (l = n) := by
          have h1 := HG.out
          rw [List.take_of_length_le (by rw [HY.out]; omega), HF.out] at h1
          have h2 := congrArg List.length h1
          rw [List.length_drop, HX.out] at h2
          show l = n
          simp at h2
          omega
        have hbe : ((l : Int) == (n : Int)) = true := beq_iff_eq.2 (by rw [hfin.out])
        clear hfin
        go_wp2
        go_ret
        exact ⟨q, rfl, rfl⟩

end Go.Proofs.Qxb6603353aMods
