import Derived.Test.Qxb6603156aModsDesc
namespace Go.Proofs.Qxb6603156aMods
open Go.RowKit
set_option linter.unusedVariables false

set_option maxHeartbeats 1000000 in
theorem sees_big (v3 : Bool) (a1 a2 a3 a4 a5 : ByteArray) (w : World) (w1 : a1.size ≤ 9223372036854775807) (w2 : a2.size ≤ 9223372036854775807) (w3 : a3.size ≤ 9223372036854775807) (w4 : a4.size ≤ 9223372036854775807) (w5 : a5.size ≤ 9223372036854775807)
    (hbig : 1048576 < a1.size + a2.size + a3.size + a4.size + a5.size) :
    Calls Trym.prog 3 #[.bool v3, .string a1, .string a2, .string a3, .string a4, .string a5] w fun e w' => e = .returned (.bool true) ∧ w = w' := by
  go_enter Trym.func3, Trym.ntmps3
  go_wp2_with (first | (go_at_call 5; refine (bytes5_any _ _ _ _ _ _ _ w1 w2 w3 w4 w5).mono ?_; rintro e w' ⟨r, rfl, rfl⟩))
  all_goals (go_ret; exact ⟨rfl, rfl⟩)

theorem below_set {w w' : World} (h : Below w.heap.size w w') (b : Nat) (hb : w.heap.size ≤ b) (v : Value) : Below w.heap.size w (w'.setCell ⟨b, 2, none⟩ v) := h.setCell hb v

set_option maxHeartbeats 1000000 in
theorem sees_small (v3 : Bool) (a1 a2 a3 a4 a5 : ByteArray) (w : World) (hsm : a1.size + a2.size + a3.size + a4.size + a5.size ≤ 1048576) :
    Calls Trym.prog 3 #[.bool v3, .string a1, .string a2, .string a3, .string a4, .string a5] w fun e w' => e = .returned (.bool true) ∧ Below w.heap.size w w' := by
  obtain ⟨_, _, _, _, q23, q23'⟩ := facts
  have hS : Sch (w.alloc (.cells #[.string a1, .slice none 0 0, .string a2, .string a3, .string a4, .pointer none, .map none, .pointer none, .slice none 0 0] 28)) w.heap.size a1 (.slice none 0 0) a2 a3 a4 := heap_alloc_new _ _
  have hB : Below w.heap.size w (w.alloc (.cells #[.string a1, .slice none 0 0, .string a2, .string a3, .string a4, .pointer none, .map none, .pointer none, .slice none 0 0] 28)) := (Below.refl _ _).alloc (Nat.le_refl _) _
  go_enter Trym.func3, Trym.ntmps3
  go_wp2_with fail
  refine (bytes5_any _ _ _ _ _ _ _ (by omega) (by omega) (by omega) (by omega) (by omega)).mono ?_
  rintro e w' ⟨r, rfl, rfl⟩
  cases r with
  | false => go_wp2; go_ret; exact ⟨rfl, Below.refl _ _⟩
  | true =>
  go_wp2_with fail
  generalize w.alloc (.cells #[.string a1, .slice none 0 0, .string a2, .string a3, .string a4, .pointer none, .map none, .pointer none, .slice none 0 0] 28) = w1 at *
  refine (visible_any v3 _ _ _ _ _ _ _ hS).mono ?_
  rintro e w' ⟨rfl, rfl⟩
  go_wp2_with fail
  refine (models_any v3 _).mono ?_
  rintro e w2 ⟨m, rfl, hm, hb2, hmb⟩
  have hS2 := hS.below hb2
  have hlt := hS.lt
  have hB2 : Below w.heap.size w w2 := hB.trans (hb2.mono hB.size)
  clear hS hB hb2 
  go_wp2_with fail
  cases hd : a5.toList.isEmpty with
  | true =>
    refine (described_none m w.heap.size a5 _ hd).mono ?_
    rintro e w' ⟨rfl, rfl⟩
    go_wp2_with fail
    refine (unwrapped_flat _ _ _ _ _ _ hS2).mono ?_
    rintro e w' ⟨rfl, rfl⟩
    go_wp2_with fail
    refine (untouched_any _ _ _ _ _ _ hS2).mono ?_
    rintro e w' ⟨rfl, rfl⟩
    go_wp2_with fail
    refine (visible_any v3 _ _ _ _ _ _ _ hS2).mono ?_
    rintro e w' ⟨rfl, rfl⟩
    go_wp2
    go_ret
    exact ⟨rfl, hB2⟩
  | false =>
    cases hv : (v3 && !a1.toList.isEmpty) with
    | false =>
      refine (described_set v3 m w.heap.size _ _ _ _ _ a5 _ hS2 hm hv hd).mono ?_
      rintro e w' ⟨rfl, rfl⟩
      have hS3 := hS2.set a5
      have hB3 := below_set hB2 _ (Nat.le_refl _) (.string a5)
      clear hS2 hB2 hm
      generalize w2.setCell ⟨w.heap.size, 2, none⟩ (.string a5) = w3 at *
      have hvis : vis v3 a1 a5 = a5 := vis_yes hv
      have HV : Hid (vis v3 a1 a5 = a5) := hvis
      clear hv hvis
      go_wp2_with fail
      refine (unwrapped_flat _ _ _ _ _ _ hS3).mono ?_
      rintro e w' ⟨rfl, rfl⟩
      go_wp2_with fail
      refine (untouched_any _ _ _ _ _ _ hS3).mono ?_
      rintro e w' ⟨rfl, rfl⟩
      go_wp2_with fail
      refine (visible_any v3 _ _ _ _ _ _ _ hS3).mono ?_
      rintro e w' ⟨rfl, rfl⟩
      rw [HV.out]
      go_wp2
      go_ret
      exact ⟨rfl, hB3⟩
    | true =>
      obtain ⟨rfl, hr⟩ : v3 = true ∧ a1.toList.isEmpty = false := by simpa using hv
      clear hv
      refine (described_wrap m w.heap.size _ _ _ _ _ a5 _ hS2 hm hr hd).mono ?_
      rintro e w3 ⟨b, c, rfl, hT, hc, hb3, hbb, hcb⟩
      have hS3 := hS2.below hb3
      have hB3 : Below w.heap.size w w3 := hB2.trans (hb3.mono hB2.size)
      have hvis : vis true ⟨#[]⟩ a5 = a5 := vis_yes (by simp [ByteArray.toList_eq])
      have HV : Hid (vis true ⟨#[]⟩ a5 = a5) := hvis
      clear hvis hS2 hB2 hm hb3 hr hcb hbb
      go_wp2_with fail
      refine (unwrapped_wrap _ _ _ _ _ _ _ hT hc).mono ?_
      rintro e w' ⟨rfl, rfl⟩
      go_wp2_with fail
      refine (untouched_any _ _ _ _ _ _ hS3).mono ?_
      rintro e w' ⟨rfl, rfl⟩
      go_wp2_with fail
      refine (visible_any true _ _ _ _ _ _ _ hT).mono ?_
      rintro e w' ⟨rfl, rfl⟩
      rw [HV.out]
      go_wp2
      go_ret
      exact ⟨rfl, hB3⟩

end Go.Proofs.Qxb6603156aMods
