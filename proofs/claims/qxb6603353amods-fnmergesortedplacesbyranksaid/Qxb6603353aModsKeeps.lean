import Derived.Test.Qxb6603353aModsMerge
namespace Go.Proofs.Qxb6603353aMods
open Go.RowKit
set_option linter.unusedVariables false

theorem Own.below {w w' : World} {B : Nat} {a : Option Addr} {n : Nat} {xs : List Int} (h : Own w B a n xs) (hb : Below w.heap.size w w') : Own w' B a n xs := by
  rcases h with h | ⟨h1, h2, h3⟩
  · exact Or.inl h
  · exact Or.inr ⟨h1, Nat.lt_of_lt_of_le h2 hb.size, fun i hi => cell_later hb (h3 i hi)⟩

theorem Own.src {w : World} {B : Nat} {a : Option Addr} {n : Nat} {xs : List Int} (h : Own w B a n xs) (hx : xs.length = n) : Src w a n xs := by
  refine ⟨hx, ?_⟩
  rcases h with ⟨_, h⟩ | ⟨h1, h2, h3⟩
  · exact Or.inl (by omega)
  · exact Or.inr ⟨B, 0, h1, fun i hi => by rw [Nat.zero_add]; exact h3 i hi⟩

theorem row_src {w : World} {base g n cap : Nat} {xs : List Int} (h : w.ownsRow base 28 1 (.slice (some ⟨g, 0, none⟩) n cap) n (xs.map (Value.int .u64))) (hx : xs.length = n) : Src w (some ⟨g, 0, none⟩) n xs := by
  refine ⟨hx, Or.inr ⟨g, 0, rfl, fun i hi => ?_⟩⟩
  rw [Nat.zero_add, h.cellAt i (by omega), List.getElem?_map, List.getD_eq_getElem?_getD, List.getElem?_eq_getElem (by omega)]
  rfl

set_option maxHeartbeats 1000000 in
theorem keeps_big (a0 a1 : Option Addr) (n0 c0 n1 c1 : Nat) (w : World) (h0 : n0 ≤ 9223372036854775807) (h1 : n1 ≤ 9223372036854775807) (hbig : ¬ (n0 ≤ 65536 ∧ n1 ≤ 65536)) :
    Calls Trym.prog 5 #[.slice a0 n0 c0, .slice a1 n1 c1] w fun e w' => e = .returned (.bool true) ∧ w = w' := by
  go_enter Trym.func5, Trym.ntmps5
  go_wp2_with fail
  refine (bytes14_any a0 a1 n0 c0 n1 c1 _ h0 h1).mono ?_
  rintro e w' ⟨r, rfl, rfl⟩
  go_wp2
  all_goals first
    | (exfalso; omega)
    | (go_ret; exact ⟨rfl, rfl⟩)

set_option maxHeartbeats 1000000 in
theorem keeps_small (a0 a1 : Option Addr) (n0 c0 n1 c1 : Nat) (xs ys : List Int) (w : World) (s0 : Src w a0 n0 xs) (s1 : Src w a1 n1 ys) (l0 : n0 ≤ 65536) (l1 : n1 ≤ 65536) :
    Calls Trym.prog 5 #[.slice a0 n0 c0, .slice a1 n1 c1] w fun e w' => e = .returned (.bool true) ∧ Below w.heap.size w w' := by
  have HX : Hid (xs.length = n0) := s0.1
  have HY : Hid (ys.length = n1) := s1.1
  have HML : Hid ((mrg xs ys).length = n0 + n1) := mrg_length (n0 + n1) xs ys (by rw [HX.out, HY.out])
  have HS := mrg_sub (n0 + n1) xs ys (by rw [HX.out, HY.out])
  go_enter Trym.func5, Trym.ntmps5
  go_wp2_with fail
  refine (bytes14_any a0 a1 n0 c0 n1 c1 _ (by omega) (by omega)).mono ?_
  rintro e w' ⟨r, rfl, rfl⟩
  cases r with
  | false => go_wp2; go_ret; exact ⟨rfl, Below.refl _ _⟩
  | true =>
  go_wp2_with fail
  refine (clone_any a0 n0 c0 xs _ s0 l0).mono ?_
  rintro e w1 ⟨b0, rfl, o0, hb1⟩
  go_wp2_with fail
  refine (clone_any a1 n1 c1 ys _ (s1.below hb1) l1).mono ?_
  rintro e w2 ⟨b1, rfl, o1, hb2⟩
  have hB2 : Below w.heap.size w w2 := hb1.trans (hb2.mono hb1.size)
  have o0' := o0.below hb2
  have k0 := o0'.cut HX.out l0
  have k1 := o1.cut HY.out l1
  clear hb1 o0 hb2 s0 s1
  go_wp2_with fail
  refine (zzmerge_any b0 b1 n0 n1 xs ys _ k0 k1).mono ?_
  rintro e w3 ⟨rfl, hown, hb3⟩
  have hB3 : Below w.heap.size w w3 := hB2.trans (hb3.mono hB2.size)
  have q0 := (o0'.below hb3).src HX.out
  have q1 := (o1.below hb3).src HY.out
  have q2 := row_src hown HML.out
  clear hown hb3 o0' o1 hB2 k0 k1
  go_wp2_with fail
  refine (issub_any b0 _ n0 n0 (n0 + n1) (n0 + n1) xs (mrg xs ys) _ q0 q2 l0 (by omega) HS.1).mono ?_
  rintro e w' ⟨q, rfl, rfl⟩
  go_wp2_with fail
  have q1' : Src (w3.drewN q) b1 n1 ys := q1
  have q2' : Src (w3.drewN q) (some ⟨w2.heap.size, 0, none⟩) (n0 + n1) (mrg xs ys) := q2
  refine (issub_any b1 _ n1 n1 (n0 + n1) (n0 + n1) ys (mrg xs ys) _ q1' q2' l1 (by omega) HS.2).mono ?_
  rintro e w' ⟨q', rfl, rfl⟩
  go_wp2
  go_ret
  exact ⟨rfl, hB3.trans ⟨rfl, rfl, rfl, Nat.le_refl _, fun _ _ => rfl⟩⟩

end Go.Proofs.Qxb6603353aMods
