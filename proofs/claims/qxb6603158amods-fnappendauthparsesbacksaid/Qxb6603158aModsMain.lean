import Derived.Test.Qxb6603158aModsEq
namespace Go.Proofs.Qxb6603158aMods
open Go.RowKit
set_option linter.unusedVariables false

set_option maxHeartbeats 1000000 in
theorem main_big (a0 a1 a2 : Option Addr) (n0 c0 n1 c1 n2 c2 : Nat) (d0 d1 d2 d3 d4 d5 d6 d7 cf : Int) (w : World) (h0 : n0 ≤ 9223372036854775807) (h1 : n1 ≤ 9223372036854775807) (h2 : n2 ≤ 9223372036854775807)
    (hbig : ¬ (n0 ≤ 65536 ∧ n1 ≤ 255 ∧ n2 ≤ 255)) :
    Calls Trym.prog 3 #[.slice a0 n0 c0, .slice a1 n1 c1, .slice a2 n2 c2, .agg #[.int .u8 d0, .int .u8 d1, .int .u8 d2, .int .u8 d3, .int .u8 d4, .int .u8 d5, .int .u8 d6, .int .u8 d7], .int .u8 cf] w fun e w' => e = .returned (.bool true) ∧ Below w.heap.size w w' := by
  have hB : Below w.heap.size w (w.alloc (.cells #[.int .u8 d0, .int .u8 d1, .int .u8 d2, .int .u8 d3, .int .u8 d4, .int .u8 d5, .int .u8 d6, .int .u8 d7] 23)) := (Below.refl _ _).alloc (Nat.le_refl _) _
  go_enter Trym.func3, Trym.ntmps3
  go_wp2_with fail
  refine (bytes_any a0 a1 a2 n0 c0 n1 c1 n2 c2 d0 d1 d2 d3 d4 d5 d6 d7 cf _ h0 h1 h2).mono ?_
  rintro e wA ⟨r, rfl, hbA⟩
  have hBA : Below w.heap.size w wA := hB.trans (hbA.mono (by simp))
  clear hB hbA
  go_wp2
  all_goals first
    | (exfalso; omega)
    | (go_ret; exact ⟨rfl, hBA⟩)

set_option maxHeartbeats 2000000 in
theorem main_small (a0 a1 a2 : Option Addr) (n0 c0 n1 c1 n2 c2 : Nat) (xs is vs : List Int) (d0 d1 d2 d3 d4 d5 d6 d7 cf : Int) (w : World) (s0 : Src w a0 n0 xs) (s1 : Src w a1 n1 is) (s2 : Src w a2 n2 vs)
    (l0 : n0 ≤ 65536) (l1 : n1 ≤ 255) (l2 : n2 ≤ 255) :
    Calls Trym.prog 3 #[.slice a0 n0 c0, .slice a1 n1 c1, .slice a2 n2 c2, .agg #[.int .u8 d0, .int .u8 d1, .int .u8 d2, .int .u8 d3, .int .u8 d4, .int .u8 d5, .int .u8 d6, .int .u8 d7], .int .u8 cf] w fun e w' => e = .returned (.bool true) ∧ Below w.heap.size w w' := by
  have hB : Below w.heap.size w (w.alloc (.cells #[.int .u8 d0, .int .u8 d1, .int .u8 d2, .int .u8 d3, .int .u8 d4, .int .u8 d5, .int .u8 d6, .int .u8 d7] 23)) := (Below.refl _ _).alloc (Nat.le_refl _) _
  have hN : Non (w.alloc (.cells #[.int .u8 d0, .int .u8 d1, .int .u8 d2, .int .u8 d3, .int .u8 d4, .int .u8 d5, .int .u8 d6, .int .u8 d7] 23)) w.heap.size d0 d1 d2 d3 d4 d5 d6 d7 := heap_alloc_new _ _
  go_enter Trym.func3, Trym.ntmps3
  go_wp2_with fail
  refine (bytes_any a0 a1 a2 n0 c0 n1 c1 n2 c2 d0 d1 d2 d3 d4 d5 d6 d7 cf _ (by omega) (by omega) (by omega)).mono ?_
  rintro e wA ⟨r, rfl, hbA⟩
  have hBA : Below w.heap.size w wA := hB.trans (hbA.mono (by simp))
  have hNA := hN.below hbA
  clear hB hbA hN
  cases r with
  | false => go_wp2; go_ret; exact ⟨rfl, hBA⟩
  | true =>
  go_wp2_with fail
  refine (clone_any a0 n0 c0 xs _ (s0.below hBA) l0).mono ?_
  rintro e w1 ⟨b0, rfl, o0, hb1⟩
  have hB1 : Below w.heap.size w w1 := hBA.trans (hb1.mono hBA.size)
  go_wp2_with fail
  refine (clone_any a1 n1 c1 is _ (s1.below hB1) (by omega)).mono ?_
  rintro e w2 ⟨b1, rfl, o1, hb2⟩
  have hB2 : Below w.heap.size w w2 := hB1.trans (hb2.mono hB1.size)
  go_wp2_with fail
  refine (clone_any a2 n2 c2 vs _ (s2.below hB2) (by omega)).mono ?_
  rintro e w3 ⟨b2, rfl, o2, hb3⟩
  have hB3 : Below w.heap.size w w3 := hB2.trans (hb3.mono hB2.size)
  have hN3 := ((hNA.below hb1).below hb2).below hb3
  have o0' := (o0.below hb2).below hb3
  have o1' := o1.below hb3
  have hxl : Hid (xs.length = n0) := s0.1
  have hil : Hid (is.length = n1) := s1.1
  have hvl : Hid (vs.length = n2) := s2.1
  obtain ⟨m0, m1, m2, m3, m4, m5, m6, m7⟩ := hN3.cells
  clear hNA hBA hB1 hB2 hb1 hb2 hb3 o0 o1 s0 s1 s2
  go_wp2_with fail
  have hA : Auth (w3.alloc (.cells #[.slice b1 n1 n1, .slice b2 n2 n2, .int .u8 d0, .int .u8 d1, .int .u8 d2, .int .u8 d3, .int .u8 d4, .int .u8 d5, .int .u8 d6, .int .u8 d7, .int .u8 cf] 29)) w3.heap.size b1 n1 b2 n2 d0 d1 d2 d3 d4 d5 d6 d7 cf := heap_alloc_new _ _
  have hb4 : Below w3.heap.size w3 (w3.alloc (.cells #[.slice b1 n1 n1, .slice b2 n2 n2, .int .u8 d0, .int .u8 d1, .int .u8 d2, .int .u8 d3, .int .u8 d4, .int .u8 d5, .int .u8 d6, .int .u8 d7, .int .u8 cf] 29)) := (Below.refl _ _).alloc (Nat.le_refl _) _
  generalize w3.alloc (.cells #[.slice b1 n1 n1, .slice b2 n2 n2, .int .u8 d0, .int .u8 d1, .int .u8 d2, .int .u8 d3, .int .u8 d4, .int .u8 d5, .int .u8 d6, .int .u8 d7, .int .u8 cf] 29) = w4 at *
  have hB4 : Below w.heap.size w w4 := hB3.trans (hb4.mono hB3.size)
  have hN4 := hN3.below hb4
  have p0 := o0'.below hb4
  have p1 := o1'.below hb4
  have p2 := o2.below hb4
  clear hN3 hB3 hb4 o0' o1' o2 m0 m1 m2 m3 m4 m5 m6 m7
  refine (append_any b0 _ n0 xs w3.heap.size b1 _ n1 is b2 _ n2 vs d0 d1 d2 d3 d4 d5 d6 d7 cf _ p0 p1 p2 hxl.out hil.out hvl.out l0 l1 l2 hA).mono ?_
  rintro e w5 ⟨v, rfl, hown, hb5⟩
  obtain ⟨g, cap, rfl, hcap, hg, hcm, hcell⟩ := row_form hown (by omega)
  have hB5 : Below w.heap.size w w5 := hB4.trans (hb5.mono hB4.size)
  have hN5 := hN4.below hb5
  have q0 := (p0.below hb5).src hxl.out
  have q1 := (p1.below hb5).src hil.out
  have q2 := (p2.below hb5).src hvl.out
  have r0 : Src w5 (some ⟨g, 0, none⟩) n0 xs := ⟨hxl.out, Or.inr ⟨g, 0, rfl, fun i hi => by
    rw [Nat.zero_add, hcell i (by omega)]
    exact getD_of (laid_head xs is vs _ _ d0 d1 d2 d3 d4 d5 d6 d7 cf i (by rw [hxl.out]; exact hi)) (by rw [hxl.out]; exact hi)⟩⟩
  have r1 : Src w5 (some ⟨g, n0 + 4, none⟩) n1 is := ⟨hil.out, Or.inr ⟨g, n0 + 4, rfl, fun i hi => by
    rw [hcell (n0 + 4 + i) (by omega)]
    exact getD_of (laid_id xs is vs _ _ d0 d1 d2 d3 d4 d5 d6 d7 cf n0 i hxl.out (by rw [hil.out]; exact hi)) (by rw [hil.out]; exact hi)⟩⟩
  have r2 : Src w5 (some ⟨g, n0 + 4 + n1, none⟩) n2 vs := ⟨hvl.out, Or.inr ⟨g, n0 + 4 + n1, rfl, fun i hi => by
    rw [hcell (n0 + 4 + n1 + i) (by omega)]
    exact getD_of (laid_value xs is vs _ _ d0 d1 d2 d3 d4 d5 d6 d7 cf n0 n1 i hxl.out hil.out (by rw [hvl.out]; exact hi)) (by rw [hvl.out]; exact hi)⟩⟩
  have tm : ∀ i x, [0, 1, (n1 : Int), (n2 : Int)][i]? = some x → w5.cell? ⟨g, n0 + i, none⟩ = some (.int .u8 x) := by
    intro i x hix
    have h4 : i < 4 := (List.getElem?_eq_some_iff.1 hix).1
    rw [hcell (n0 + i) (by omega)]
    exact val_of ((laid_mark xs is vs _ _ d0 d1 d2 d3 d4 d5 d6 d7 cf n0 i h4 hxl.out).trans hix)
  have tt : ∀ i x, [d0, d1, d2, d3, d4, d5, d6, d7, cf][i]? = some x → w5.cell? ⟨g, n0 + 4 + n1 + n2 + i, none⟩ = some (.int .u8 x) := by
    intro i x hix
    have h9 : i < 9 := (List.getElem?_eq_some_iff.1 hix).1
    rw [hcell (n0 + 4 + n1 + n2 + i) (by omega)]
    exact val_of ((laid_tail xs is vs _ _ d0 d1 d2 d3 d4 d5 d6 d7 cf n0 n1 n2 i hxl.out hil.out hvl.out).trans hix)
  have C : ∀ w', Below w5.heap.size w5 w' → _ := fun w' hb => parse_any g cap n0 n1 n2 d0 d1 d2 d3 d4 d5 d6 d7 cf w' l0 l1 l2 hcap
    (cell_later hb (tm 0 _ rfl)) (cell_later hb (tm 1 _ rfl)) (cell_later hb (tm 2 _ rfl)) (cell_later hb (tm 3 _ rfl))
    (cell_later hb (tt 0 _ rfl)) (cell_later hb (tt 1 _ rfl)) (cell_later hb (tt 2 _ rfl)) (cell_later hb (tt 3 _ rfl)) (cell_later hb (tt 4 _ rfl)) (cell_later hb (tt 5 _ rfl)) (cell_later hb (tt 6 _ rfl)) (cell_later hb (tt 7 _ rfl)) (cell_later hb (tt 8 _ rfl))
  have HC : Hid _ := C
  clear tm tt C hcell hown hb5 p0 p1 p2 hN4 hB4 hA
  go_wp2_with fail
  refine (equal_any (some ⟨g, 0, none⟩) b0 n0 cap n0 xs _ r0 q0 (by omega)).mono ?_
  rintro e w' ⟨rfl, q, rfl⟩
  have hb6 : Below w5.heap.size w5 (w5.drewN q) := ⟨rfl, rfl, rfl, Nat.le_refl _, fun _ _ => rfl⟩
  go_wp2_with fail
  refine (HC.out _ hb6).mono ?_
  rintro e w7 ⟨rfl, hb7⟩
  have hb57 : Below w5.heap.size w5 w7 := hb6.trans (hb7.mono (Nat.le_refl _))
  have hB7 : Below w.heap.size w w7 := hB5.trans (hb57.mono hB5.size)
  have hN7 := hN5.below hb57
  have q1' := q1.below hb57
  have q2' := q2.below hb57
  have r1' := r1.below hb57
  have r2' := r2.below hb57
  clear HC hb6 hb7 hB5 hN5 q0 q1 q2 r0 r1 r2 hb57
  go_wp2_with fail
  have hM : Non (w7.alloc (.cells #[.int .u8 d0, .int .u8 d1, .int .u8 d2, .int .u8 d3, .int .u8 d4, .int .u8 d5, .int .u8 d6, .int .u8 d7] 23)) w7.heap.size d0 d1 d2 d3 d4 d5 d6 d7 := heap_alloc_new _ _
  have hb8 : Below w7.heap.size w7 (w7.alloc (.cells #[.int .u8 d0, .int .u8 d1, .int .u8 d2, .int .u8 d3, .int .u8 d4, .int .u8 d5, .int .u8 d6, .int .u8 d7] 23)) := (Below.refl _ _).alloc (Nat.le_refl _) _
  generalize w7.alloc (.cells #[.int .u8 d0, .int .u8 d1, .int .u8 d2, .int .u8 d3, .int .u8 d4, .int .u8 d5, .int .u8 d6, .int .u8 d7] 23) = w8 at *
  have hB8 : Below w.heap.size w w8 := hB7.trans (hb8.mono hB7.size)
  have hN8 := hN7.below hb8
  have u1 := q1'.below hb8
  have u2 := q2'.below hb8
  have v1 := r1'.below hb8
  have v2 := r2'.below hb8
  clear hB7 hN7 q1' q2' r1' r2' hb8
  refine (equal_any _ b1 n1 _ n1 is _ v1 u1 (by omega)).mono ?_
  rintro e w' ⟨rfl, q1, rfl⟩
  go_wp2_with fail
  have u2' : Src (w8.drewN q1) b2 n2 vs := u2
  have v2' : Src (w8.drewN q1) (some ⟨g, n0 + 4 + n1, none⟩) n2 vs := v2
  refine (equal_any _ b2 n2 _ n2 vs _ v2' u2' (by omega)).mono ?_
  rintro e w' ⟨rfl, q2, rfl⟩
  obtain ⟨m0, m1, m2, m3, m4, m5, m6, m7⟩ := hN8.cells
  obtain ⟨k0, k1, k2, k3, k4, k5, k6, k7⟩ := hM.cells
  clear u1 u2 v1 v2 u2' v2' hN8 hM
  have q23 := eq23 d0 d1 d2 d3 d4 d5 d6 d7
  go_wp2
  go_ret
  exact ⟨rfl, hB8.trans ⟨rfl, rfl, rfl, Nat.le_refl _, fun _ _ => rfl⟩⟩

end Go.Proofs.Qxb6603158aMods
