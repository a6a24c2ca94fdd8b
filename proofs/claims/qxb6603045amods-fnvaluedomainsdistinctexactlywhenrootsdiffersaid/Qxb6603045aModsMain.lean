import Derived.Test.Qxb6603045aModsValue
import Derived.Deep.QuietTactic
import Derived.BigQuiet
namespace Go.Proofs.Qxb6603045aMods
open Go.RowKit
set_option linter.unusedVariables false

set_option maxHeartbeats 1000000 in
theorem main_out (a0 a1 a2 : Option Addr) (t0 t1 : Option ByteArray) (len cap : Nat) (ss : List ByteArray) (i j : Int) (w : World) (h0 : PtrTo w a0 t0) (h1 : PtrTo w a1 t1) (h2 : IsStrs w a2 len ss)
    (hout : ¬ (0 ≤ i ∧ i < len ∧ 0 ≤ j ∧ j < len)) :
    Calls Trym.prog 3 #[.pointer a0, .pointer a1, .slice a2 len cap, .int .i64 i, .int .i64 j] w fun e w' => e = .returned (.bool true) ∧ w = w' := by
  have hmx : len ≤ 9223372036854775807 := h2.2.2.1
  go_enter Trym.func3, Trym.ntmps3
  go_wp2_with (first | (go_at_call 4; refine (bytes_any a0 a1 a2 t0 t1 len cap ss i j _ h0 h1 h2).mono ?_; rintro e w' ⟨r, rfl, rfl⟩) | (go_at_call 5; refine (toobig_any a0 a1 a2 t0 t1 len cap ss _ h0 h1 h2).mono ?_; rintro e w' ⟨r, rfl, rfl, _⟩))
  all_goals first
    | (exfalso; omega)
    | (go_ret; exact ⟨rfl, rfl⟩)

/-- THE PLAIN LAW: common text ahead and behind neither merges two roots nor splits one. -/
theorem affix_eq (p s : Option ByteArray) (x y : ByteArray) : (((suf s (pre p x)).toList == (suf s (pre p y)).toList) == (x.toList == y.toList)) = true := by
  have h : ((suf s (pre p x)).toList = (suf s (pre p y)).toList) ↔ (x.toList = y.toList) := by
    cases p <;> cases s <;> simp [suf, pre, ByteArray.toList_eq, ByteArray.data_append, List.append_cancel_left_eq, List.append_cancel_right_eq]
  rw [Bool.beq_eq_decide_eq, decide_eq_true_eq, Bool.eq_iff_iff]
  simpa using h

theorem bcell {W w1 : World} (hb : Below W.heap.size W w1) : (∀ b o, b < W.heap.size → w1.cell? ⟨b, o, none⟩ = W.cell? ⟨b, o, none⟩) :=
  fun b o h => hb.cell (p := ⟨b, o, none⟩) h

set_option maxHeartbeats 1000000 in
theorem main_in (a0 a1 : Option Addr) (b2 o2 : Nat) (t0 t1 : Option ByteArray) (len cap : Nat) (ss : List ByteArray) (i j : Nat) (w : World) (h0 : PtrTo w a0 t0) (h1 : PtrTo w a1 t1) (h2 : IsStrs w (some ⟨b2, o2, none⟩) len ss)
    (hi : i < len) (hj : j < len) (hc2 : ∀ i, i < len → w.cell? ⟨b2, o2 + i, none⟩ = some (.string (ss.getD i ByteArray.empty))) :
    Calls Trym.prog 3 #[.pointer a0, .pointer a1, .slice (some ⟨b2, o2, none⟩) len cap, .int .i64 i, .int .i64 j] w fun e w' => e = .returned (.bool true) ∧ Below w.heap.size w w' := by
  have hmx : len ≤ 9223372036854775807 := h2.2.2.1
  have hb2 : b2 < w.heap.size := World.block_lt_of_cell? _ _ (hc2 i hi)
  have HC : Hid (∀ i, i < len → w.cell? ⟨b2, o2 + i, none⟩ = some (.string (ss.getD i ByteArray.empty))) := hc2
  clear hc2
  by_cases hl : 65536 < len
  · go_enter Trym.func3, Trym.ntmps3
    go_wp2_with (first | (go_at_call 4; refine (bytes_any a0 a1 _ t0 t1 len cap ss i j _ h0 h1 h2).mono ?_; rintro e w' ⟨r, rfl, rfl⟩))
    all_goals (go_ret; exact ⟨rfl, Below.refl _ _⟩)
  go_enter Trym.func3, Trym.ntmps3
  go_wp2_with fail
  refine (bytes_any a0 a1 _ t0 t1 len cap ss i j _ h0 h1 h2).mono ?_
  rintro e w' ⟨r, rfl, rfl⟩
  cases r with
  | false => go_wp2; go_ret; exact ⟨rfl, Below.refl _ _⟩
  | true =>
  go_wp2_with fail
  refine (toobig_any a0 a1 _ t0 t1 len cap ss _ h0 h1 h2).mono ?_
  rintro e w' ⟨r, rfl, rfl, hsm⟩
  cases r with
  | true => go_wp2; go_ret; exact ⟨rfl, Below.refl _ _⟩
  | false =>
  obtain ⟨hl', hp, hs, hr⟩ := hsm rfl
  clear hsm
  have hri := hr i hi
  have hrj := hr j hj
  clear hr
  go_wp2_with fail
  refine (clonetext_any a0 t0 _ h0).mono ?_
  rintro e w1 ⟨a0', rfl, h0', hb1⟩
  go_wp2_with fail
  refine (clonetext_any a1 t1 _ (h1.below hb1)).mono ?_
  rintro e w2 ⟨a1', rfl, h1', hb2'⟩
  go_wp2_with fail
  have hz1 := hb1.size
  have hz2 := hb2'.size
  have b02 : Below w.heap.size w w2 := hb1.trans (hb2'.mono hz1)
  refine (cloneroots_any b2 o2 len cap ss _ (by omega) (fun k hk => cell_later b02 (HC.out k hk)) (by omega)).mono ?_
  rintro e w3 ⟨rfl, hc3, hb3⟩
  have hz3 := hb3.size
  have h0w := h0'.below (hb2'.trans (hb3.mono hz2))
  have h1w := h1'.below hb3
  have b03 : Below w.heap.size w w3 := b02.trans (hb3.mono (by omega))
  have hci := hc3 i hi
  have hcj := hc3 j hj
  clear hc3 h0' h1' h0 h1 hb1 hb2' hb3 b02
  have bel4 : Below w3.heap.size w3 ((w3.alloc (.cells #[.pointer a0', .pointer a1', .slice (some ⟨w2.heap.size, 0, none⟩) len len] 30)).alloc (.cells #[.pointer none, .pointer (some ⟨w3.heap.size, 0, none⟩)] 32)) :=
    ((Below.refl _ _).alloc (Nat.le_refl _) _).alloc (by simp) _
  have e30 : ((w3.alloc (.cells #[.pointer a0', .pointer a1', .slice (some ⟨w2.heap.size, 0, none⟩) len len] 30)).alloc (.cells #[.pointer none, .pointer (some ⟨w3.heap.size, 0, none⟩)] 32)).cell? ⟨w3.heap.size, 0, none⟩ = some (.pointer a0') := by simp
  have e31 : ((w3.alloc (.cells #[.pointer a0', .pointer a1', .slice (some ⟨w2.heap.size, 0, none⟩) len len] 30)).alloc (.cells #[.pointer none, .pointer (some ⟨w3.heap.size, 0, none⟩)] 32)).cell? ⟨w3.heap.size, 1, none⟩ = some (.pointer a1') := by simp
  have e32 : ((w3.alloc (.cells #[.pointer a0', .pointer a1', .slice (some ⟨w2.heap.size, 0, none⟩) len len] 30)).alloc (.cells #[.pointer none, .pointer (some ⟨w3.heap.size, 0, none⟩)] 32)).cell? ⟨w3.heap.size, 2, none⟩ = some (.slice (some ⟨w2.heap.size, 0, none⟩) len len) := by simp
  have e40 : ((w3.alloc (.cells #[.pointer a0', .pointer a1', .slice (some ⟨w2.heap.size, 0, none⟩) len len] 30)).alloc (.cells #[.pointer none, .pointer (some ⟨w3.heap.size, 0, none⟩)] 32)).cell? ⟨w3.heap.size + 1, 0, none⟩ = some (.pointer none) := by simp
  have e41 : ((w3.alloc (.cells #[.pointer a0', .pointer a1', .slice (some ⟨w2.heap.size, 0, none⟩) len len] 30)).alloc (.cells #[.pointer none, .pointer (some ⟨w3.heap.size, 0, none⟩)] 32)).cell? ⟨w3.heap.size + 1, 1, none⟩ = some (.pointer (some ⟨w3.heap.size, 0, none⟩)) := by simp
  have h0x := h0w.below bel4
  have h1x := h1w.below bel4
  have hcix := cell_later bel4 hci
  have hcjx := cell_later bel4 hcj
  have b04 := b03.trans (bel4.mono (by omega))
  clear hci hcj
  go_wp2_with fail
  generalize (w3.alloc (.cells #[.pointer a0', .pointer a1', .slice (some ⟨w2.heap.size, 0, none⟩) len len] 30)).alloc (.cells #[.pointer none, .pointer (some ⟨w3.heap.size, 0, none⟩)] 32) = w4 at *
  refine (zzvalue_any w3.heap.size w2.heap.size len a0' a1' t0 t1 i _ _ h0x h1x e30 e31 e32 hcix hi hp hs hri).mono ?_
  rintro e w5 ⟨rfl, hb5⟩
  have f30 := cell_later hb5 e30
  have f31 := cell_later hb5 e31
  have f32 := cell_later hb5 e32
  have f40 := cell_later hb5 e40
  have f41 := cell_later hb5 e41
  have fi := cell_later hb5 hcix
  have fj := cell_later hb5 hcjx
  have h0y := h0x.below hb5
  have h1y := h1x.below hb5
  have b05 := b04.trans (hb5.mono b04.size)
  clear e30 e31 e32 e40 e41 hcix hcjx h0x h1x h0w h1w b04 bel4 b03 hb5
  go_wp2_with fail
  refine (zzvalue_any w3.heap.size w2.heap.size len a0' a1' t0 t1 j _ _ h0y h1y f30 f31 f32 fj hj hp hs hrj).mono ?_
  rintro e w6 ⟨rfl, hb6⟩
  have gi := cell_later hb6 fi
  have gj := cell_later hb6 fj
  have b06 := b05.trans (hb6.mono b05.size)
  have hi' : (i : Int) < (len : Int) := by omega
  have hj' : (j : Int) < (len : Int) := by omega
  clear f30 f31 f32 f40 f41 fi fj h0y h1y b05 hb6
  go_wp2
  go_quiet (fail)
  go_wp2
  go_ret
  exact ⟨by rw [affix_eq]; rfl, b06.trans ⟨rfl, rfl, rfl, Nat.le_refl _, fun _ _ => rfl⟩⟩

end Go.Proofs.Qxb6603045aMods
