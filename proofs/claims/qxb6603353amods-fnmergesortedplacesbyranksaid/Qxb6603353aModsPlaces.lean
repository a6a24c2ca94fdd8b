import Derived.Test.Qxb6603353aModsKeeps
namespace Go.Proofs.Qxb6603353aMods
open Go.RowKit
set_option linter.unusedVariables false

set_option maxHeartbeats 1000000 in
theorem places_big (a0 a1 : Option Addr) (n0 c0 n1 c1 : Nat) (w : World) (h0 : n0 ≤ 9223372036854775807) (h1 : n1 ≤ 9223372036854775807) (hbig : ¬ (n0 ≤ 65536 ∧ n1 ≤ 65536)) :
    Calls Trym.prog 3 #[.slice a0 n0 c0, .slice a1 n1 c1] w fun e w' => e = .returned (.bool true) ∧ w = w' := by
  go_enter Trym.func3, Trym.ntmps3
  go_wp2_with fail
  refine (bytes6_any a0 a1 n0 c0 n1 c1 _ h0 h1).mono ?_
  rintro e w' ⟨r, rfl, rfl⟩
  cases r with
  | false => go_wp2; go_ret; exact ⟨rfl, rfl⟩
  | true =>
  by_cases hx : n0 ≤ 65536
  · have hy : ¬ n1 ≤ 65536 := fun h => hbig ⟨hx, h⟩
    go_wp2
    go_ret
    exact ⟨rfl, rfl⟩
  · go_wp2
    go_ret
    exact ⟨rfl, rfl⟩

theorem below_draw {w w' : World} (h : Below w.heap.size w w') (q : Nat) : Below w.heap.size w (w'.drewN q) := h.trans ⟨rfl, rfl, rfl, Nat.le_refl _, fun _ _ => rfl⟩

theorem row_cells {w : World} {base g n cap : Nat} {xs : List Int} (h : w.ownsRow base 28 1 (.slice (some ⟨g, 0, none⟩) n cap) n (xs.map (Value.int .u64))) (hx : xs.length = n) :
    ∀ i, i < n → w.cell? ⟨g, i, none⟩ = some (.int .u64 (xs.getD i 0)) := by
  intro i hi
  rw [h.cellAt i (by omega), List.getElem?_map, List.getD_eq_getElem?_getD, List.getElem?_eq_getElem (by omega)]
  rfl

set_option maxHeartbeats 2000000 in
theorem places_small (a0 a1 : Option Addr) (n0 c0 n1 c1 : Nat) (xs ys : List Int) (w : World) (s0 : Src w a0 n0 xs) (s1 : Src w a1 n1 ys) (l0 : n0 ≤ 65536) (l1 : n1 ≤ 65536) :
    Calls Trym.prog 3 #[.slice a0 n0 c0, .slice a1 n1 c1] w fun e w' => e = .returned (.bool true) ∧ Below w.heap.size w w' := by
  have HX : Hid (xs.length = n0) := s0.1
  have HY : Hid (ys.length = n1) := s1.1
  have HML : Hid ((mrg xs ys).length = n0 + n1) := mrg_length (n0 + n1) xs ys (by rw [HX.out, HY.out])
  go_enter Trym.func3, Trym.ntmps3
  go_wp2_with fail
  refine (bytes6_any a0 a1 n0 c0 n1 c1 _ (by omega) (by omega)).mono ?_
  rintro e w' ⟨r, rfl, rfl⟩
  cases r with
  | false => go_wp2; go_ret; exact ⟨rfl, Below.refl _ _⟩
  | true =>
  go_wp2_with fail
  refine (nondec_any a0 n0 c0 xs _ s0 l0).mono ?_
  rintro e w' ⟨r, qa, rfl, rfl, hsa⟩
  cases r with
  | false => go_wp2; go_ret; exact ⟨rfl, below_draw (Below.refl _ _) qa⟩
  | true =>
  have HA : Hid (Srt xs) := hsa rfl
  clear hsa
  have s1' : Src (w.drewN qa) a1 n1 ys := s1
  go_wp2_with fail
  refine (nondec_any a1 n1 c1 ys _ s1' l1).mono ?_
  rintro e w' ⟨r, qb, rfl, rfl, hsb⟩
  have hB0 : Below w.heap.size w ((w.drewN qa).drewN qb) := below_draw (below_draw (Below.refl _ _) qa) qb
  have s0'' := s0.below hB0
  have s1'' := s1.below hB0
  clear s0 s1 s1'
  generalize (w.drewN qa).drewN qb = wd at *
  cases r with
  | false => go_wp2; go_ret; exact ⟨rfl, hB0⟩
  | true =>
  have HB : Hid (Srt ys) := hsb rfl
  clear hsb
  go_wp2_with fail
  refine (clone_any a0 n0 c0 xs _ s0'' l0).mono ?_
  rintro e w1 ⟨b0, rfl, o0, hb1⟩
  go_wp2_with fail
  refine (clone_any a1 n1 c1 ys _ (s1''.below hb1) l1).mono ?_
  rintro e w2 ⟨b1, rfl, o1, hb2⟩
  have hB1 : Below w.heap.size w w1 := hB0.trans (hb1.mono hB0.size)
  have hB2 : Below w.heap.size w w2 := hB1.trans (hb2.mono hB1.size)
  have o0' := o0.below hb2
  have k0 := o0'.cut HX.out l0
  have k1 := o1.cut HY.out l1
  clear hb1 o0 hb2 s0'' s1'' hB0 hB1
  go_wp2_with fail
  refine (zzmerge_any b0 b1 n0 n1 xs ys _ k0 k1).mono ?_
  rintro e w3 ⟨rfl, hown, hb3⟩
  have hB3 : Below w.heap.size w w3 := hB2.trans (hb3.mono hB2.size)
  have q0 := (o0'.below hb3).src HX.out
  have q1 := (o1.below hb3).src HY.out
  have HC : Hid (∀ i, i < n0 + n1 → w3.cell? ⟨w2.heap.size, i, none⟩ = some (.int .u64 ((mrg xs ys).getD i 0))) := row_cells hown HML.out
  have RA : Hid (∀ i r, i < n0 → r ≤ n1 → (∀ j, j < r → ys.getD j 0 < xs.getD i 0) → (∀ j, r ≤ j → j < n1 → xs.getD i 0 ≤ ys.getD j 0) → (mrg xs ys).getD (i + r) 0 = xs.getD i 0) := fun i r h1 h2 h3 h4 =>
    rank_a (n0 + n1) xs ys (by rw [HX.out, HY.out]) HA.out HB.out i r (by rw [HX.out]; exact h1) (by rw [HY.out]; exact h2) h3 (fun j h5 h6 => h4 j h5 (by rw [HY.out] at h6; exact h6))
  have RB : Hid (∀ j r, j < n1 → r ≤ n0 → (∀ i, i < r → xs.getD i 0 ≤ ys.getD j 0) → (∀ i, r ≤ i → i < n0 → ys.getD j 0 < xs.getD i 0) → (mrg xs ys).getD (j + r) 0 = ys.getD j 0) := fun j r h1 h2 h3 h4 =>
    rank_b (n0 + n1) xs ys (by rw [HX.out, HY.out]) HA.out HB.out j r (by rw [HY.out]; exact h1) (by rw [HX.out]; exact h2) h3 (fun i h5 h6 => h4 i h5 (by rw [HX.out] at h6; exact h6))
  clear hown hb3 o0' o1 hB2 k0 k1
  go_wp2
  go_loopw [6] (fun i wr => ∃ k q : Nat, k ≤ n0 ∧ i = .int .i64 k ∧ wr = w3.drewN q) (fun i _ => n0 - (intOf i).toNat)
  case atStart => exact ⟨0, 0, Nat.zero_le _, rfl, rfl⟩
  case round =>
    obtain ⟨k, q, hk, rfl, rfl⟩ := hrel
    by_cases hlt : k < n0
    · rcases id q0.2 with hz | ⟨bb, off, rfl, hc⟩
      · omega
      have g0 := hc k hlt
      have q1' : Src (w3.drewN q) b1 n1 ys := q1
      have RAk := RA.out k
      generalize xs.getD k 0 = x at g0 RAk
      have RK : Hid _ := RAk
      clear hc RAk
      have hlt' : (k : Int) < (n0 : Int) := by omega
      go_wp2_with fail
      refine (less_any b1 n1 n1 ys x _ q1' HB.out l1).mono ?_
      rintro e w' ⟨r, rfl, rfl, hr1, hr2, hr3⟩
      have hrn : r ≤ n1 := by rw [HY.out] at hr1; exact hr1
      have g1 : w3.cell? ⟨w2.heap.size, k + r, none⟩ = some (.int .u64 x) := by
        rw [HC.out (k + r) (by omega), RK.out r hlt hrn hr2 (fun j h1 h2 => hr3 j h1 (by rw [HY.out]; exact h2))]
      have hpl : (k : Int) + (r : Int) < (n0 : Int) + (n1 : Int) := by omega
      have hbe : (x != x) = false := by simp
      clear hr1 hr2 hr3 RK q1'
      go_wp2
      go_quiet (fail)
      go_wp2
      go_roundw
      case rel => exact ⟨k + 1, _, by omega, by go_num, rfl⟩
      case measure => simp [intOf]; omega
    · clear RA hk
      go_wp2
      go_loopw [8] (fun i wr => ∃ j q : Nat, j ≤ n1 ∧ i = .int .i64 j ∧ wr = w3.drewN q) (fun i _ => n1 - (intOf i).toNat)
      case atStart => exact ⟨0, q, Nat.zero_le _, rfl, rfl⟩
      case round =>
        obtain ⟨j, q', hj, rfl, rfl⟩ := hrel
        by_cases hlt : j < n1
        · rcases id q1.2 with hz | ⟨bb, off, rfl, hc⟩
          · omega
          have g0 := hc j hlt
          have q0' : Src (w3.drewN q') b0 n0 xs := q0
          have RBj := RB.out j
          generalize ys.getD j 0 = y at g0 RBj
          have RK : Hid _ := RBj
          clear hc RBj
          have hlt' : (j : Int) < (n1 : Int) := by omega
          go_wp2_with fail
          refine (most_any b0 n0 n0 xs y _ q0' HA.out l0).mono ?_
          rintro e w' ⟨r, rfl, rfl, hr1, hr2, hr3⟩
          have hrn : r ≤ n0 := by rw [HX.out] at hr1; exact hr1
          have g1 : w3.cell? ⟨w2.heap.size, j + r, none⟩ = some (.int .u64 y) := by
            rw [HC.out (j + r) (by omega), RK.out r hlt hrn hr2 (fun i h1 h2 => hr3 i h1 (by rw [HX.out]; exact h2))]
          have hpl : (j : Int) + (r : Int) < (n0 : Int) + (n1 : Int) := by omega
          have hbe : (y != y) = false := by simp
          clear hr1 hr2 hr3 RK q0'
          go_wp2
          go_quiet (fail)
          go_wp2
          go_roundw
          case rel => exact ⟨j + 1, _, by omega, by go_num, rfl⟩
          case measure => simp [intOf]; omega
        · go_wp2
          go_ret
          exact ⟨rfl, below_draw hB3 q'⟩

end Go.Proofs.Qxb6603353aMods
