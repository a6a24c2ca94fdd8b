import Derived.Test.Qxb6603045aModsMain
import Derived.ProofKit
import Derived.OpenShut
import Derived.ShutString
import Derived.ChangeOld
import Derived.SliceStrings
namespace Go.Proofs.Qxb6603045aMods
open Go.ChangeShapes Go.WideShapes Go.ChangeAt Go.RowKit
open Go.ChangeMaps (open_string shut_string)
set_option linter.unusedVariables false

theorem Trym.own : ownKnob Trym.prog.godebug = none := by kernel_rfl
theorem Trym.laidOut : laidOutB Trym.prog = true := by kernel_rfl
theorem Trym.cells9 : Trym.prog.cellsOf 9 = 1 := by kernel_rfl

/-- The walk, for every input. -/
theorem walk (a0 a1 a2 : Option Addr) (t0 t1 : Option ByteArray) (len cap : Nat) (ss : List ByteArray) (i j : Int) (w : World) (h0 : PtrTo w a0 t0) (h1 : PtrTo w a1 t1) (h2 : IsStrs w a2 len ss) :
    Calls Trym.prog 3 #[.pointer a0, .pointer a1, .slice a2 len cap, .int .i64 i, .int .i64 j] w fun e w' => e = .returned (.bool true) ∧ Below w.heap.size w w' := by
  by_cases hin : 0 ≤ i ∧ i < len ∧ 0 ≤ j ∧ j < len
  · obtain ⟨i0, i1, j0, j1⟩ := hin
    obtain ⟨m, rfl⟩ := Int.eq_ofNat_of_zero_le i0
    obtain ⟨n, rfl⟩ := Int.eq_ofNat_of_zero_le j0
    rcases h2.2.2.2 with hz | ⟨b2, o2, rfl, hc2⟩
    · omega
    · exact main_in a0 a1 b2 o2 t0 t1 len cap ss m n w h0 h1 h2 (by omega) (by omega) hc2
  · refine (main_out a0 a1 a2 t0 t1 len cap ss i j w h0 h1 h2 hin).mono ?_
    rintro e w' ⟨rfl, rfl⟩
    exact ⟨rfl, Below.refl _ _⟩

theorem ptr_open {H : Type} {enc : TypeId × Value → H} {W : World} {base base' : Nat} {sp : Nat → Bool} {held : Bool} {v : Value} {d : DataW H} {p : List MemPlace}
    (hval : Value.okWide Trym.prog W .any base' 22 v) (h : DataW.Trod enc Trym.prog W base sp held 22 v d p) : ∃ a t, v = .pointer a ∧ PtrTo W a t := by
  rcases open_ptr Trym.underlying22 (by rw [Trym.cells9]; omega) hval h with ⟨rfl, _, _⟩ | ⟨b, off, cs, y, fuel, rfl, _, _, hlen, hcell, hy⟩
  · exact ⟨none, none, rfl, Or.inl ⟨rfl, rfl⟩⟩
  · obtain ⟨s, rfl, _, hs⟩ := DataW.trod_string Trym.underlying9 hy
    have := hcell 0 (by rw [Trym.cells9]; omega)
    simp at this
    exact ⟨_, some s, rfl, Or.inr ⟨b, off, s, rfl, rfl, this, hs⟩⟩

theorem strs_open {H : Type} {enc : TypeId × Value → H} {W : World} {base : Nat} {sp : Nat → Bool} {held : Bool} {a : Option Addr} {len cap : Nat} {d : DataW H} {p : List MemPlace}
    (h : DataW.Trod enc Trym.prog W base sp held 23 (.slice a len cap) d p) : ∃ ss, IsStrs W a len ss := by
  obtain ⟨fuel, hf⟩ := h
  rcases open_strings Trym.underlying23 Trym.underlying9 Trym.cells9 hf with ⟨hcs, hx⟩ | ⟨x, l, c, ss, hcs, _, hl, hm, hz, hx, hcell, hsz⟩
  · simp [Value.cells] at hcs
    obtain ⟨rfl, rfl, rfl⟩ := hcs
    exact ⟨[], by simp, by simp, by simp, Or.inl rfl⟩
  · simp [Value.cells] at hcs
    obtain ⟨rfl, rfl, rfl⟩ := hcs
    have hle : len ≤ ss.length := by rw [hz]; split <;> omega
    refine ⟨ss, hsz, hle, Nat.le_trans hl hm, ?_⟩
    by_cases h0 : len = 0
    · exact Or.inl h0
    · right
      obtain ⟨b, off, spot⟩ := x
      have hspot : spot = none := by simpa [Addr.add] using World.cell?_spot (hcell 0 (by omega))
      subst hspot
      exact ⟨b, off, rfl, fun i hi => by rw [← Go.WideShapes.add_plain]; exact hcell i (by omega)⟩

set_option maxRecDepth 100000 in
theorem lifted (os : Os) (started : os.Started) (H : Type) (enc : TypeId × Value → H) :
    ReturnsInHanded {} Trym.checked os 3 .any (Rows.fnValueDomainsDistinctExactlyWhenRootsDifferSpec.pre6 enc Trym.prog Trym.f3 Rows.fnValueDomainsDistinctExactlyWhenRootsDifferRow.domain false) (Rows.fnValueDomainsDistinctExactlyWhenRootsDifferSpec.post enc Trym.prog Trym.f3 false true false false) := by
  refine returnsInHanded_of_change (C := Trym.checked) Trym.own started (by kernel_rfl) Trym.func3
    (ChangeSpec.witness6 (enc := enc) (C := Trym.checked) false ⟨#[], #[.pointer none, .pointer none, .slice none 0 0, .int .i64 0, .int .i64 0], []⟩ 8 (by kernel_rfl) (by kernel_rfl) (by kernel_rfl) (by kernel_rfl)) ?_
  intro W base args ds gs before hval0 hW hcnd _
  have hval : ∀ (j : Nat) t v, Trym.f3.params[j]? = some t → args[j]? = some v → Value.okWide Trym.prog W .any base t v := hval0
  have hW' := hW
  obtain ⟨p, q, hA0, hV, rfl, hfz, hnd⟩ := hW
  have hA : DataW.TrodAll enc Trym.prog W 0 (fun _ => true) true Trym.f3.params.toList args.toList ds p := hA0
  rw [Trym.params3] at hA hval
  obtain ⟨v0, vs0, d0, ds0, p0, q0, hargs, rfl, rfl, h0, r0⟩ := trodAll_cons hA
  obtain ⟨v1, vs1, d1, ds1, p1, q1, rfl, rfl, rfl, h1, r1⟩ := trodAll_cons r0
  obtain ⟨v2, vs2, d2, ds2, p2, q2, rfl, rfl, rfl, h2, r2⟩ := trodAll_cons r1
  obtain ⟨v3, vs3, d3, ds3, p3, q3, rfl, rfl, rfl, h3, r3⟩ := trodAll_cons r2
  obtain ⟨v4, vs4, d4, ds4, p4, q4, rfl, rfl, rfl, h4, r4⟩ := trodAll_cons r3
  obtain ⟨rfl, rfl, rfl⟩ := trodAll_nil r4
  obtain rfl : args = #[v0, v1, v2, v3, v4] := by cases args; simp_all
  obtain ⟨rfl, rfl⟩ := trodVars_none hV
  have k0 := h0
  have lt0 : ∀ x ∈ p0, x.block < W.heap.size := by obtain ⟨m, hm⟩ := k0; exact DataW.trod_lt m _ _ _ hm
  obtain ⟨a0, t0, rfl, w0⟩ := ptr_open (hval 0 22 v0 rfl rfl) h0
  have k1 := h1
  have lt1 : ∀ x ∈ p1, x.block < W.heap.size := by obtain ⟨m, hm⟩ := k1; exact DataW.trod_lt m _ _ _ hm
  obtain ⟨a1, t1, rfl, w1⟩ := ptr_open (hval 1 22 v1 rfl rfl) h1
  have k2 := h2
  have lt2 : ∀ x ∈ p2, x.block < W.heap.size := by obtain ⟨m, hm⟩ := k2; exact DataW.trod_lt m _ _ _ hm
  obtain ⟨a2, len, cap, rfl⟩ := okWide_slice Trym.underlying23 (hval 2 23 v2 rfl rfl)
  obtain ⟨ss, w2⟩ := strs_open h2
  have k3 := h3
  have lt3 : ∀ x ∈ p3, x.block < W.heap.size := by obtain ⟨m, hm⟩ := k3; exact DataW.trod_lt m _ _ _ hm
  obtain ⟨x3, rfl, rfl, rfl, wx3⟩ := open_int Trym.underlying3 (hval 3 3 v3 rfl rfl) h3
  have k4 := h4
  have lt4 : ∀ x ∈ p4, x.block < W.heap.size := by obtain ⟨m, hm⟩ := k4; exact DataW.trod_lt m _ _ _ hm
  obtain ⟨x4, rfl, rfl, rfl, wx4⟩ := open_int Trym.underlying3 (hval 4 3 v4 rfl rfl) h4
  clear hA0 hval0
  refine (walk a0 a1 a2 t0 t1 len cap ss x3 x4 W w0 w1 w2).mono fun e W' ⟨he, bel⟩ => ?_
  subst he
  exact ⟨_, rfl, _, _, _, [], _, [], hW', trodAll_mk1 (shut_bool Trym.underlying4 _), (trodAll_cons_mk (Below.trod Trym.laidOut (by kernel_rfl) (of_decide_eq_true (by kernel_rfl)) k0 bel lt0) (trodAll_cons_mk (Below.trod Trym.laidOut (by kernel_rfl) (of_decide_eq_true (by kernel_rfl)) k1 bel lt1) (trodAll_cons_mk (Below.trod Trym.laidOut (by kernel_rfl) (of_decide_eq_true (by kernel_rfl)) k2 bel lt2) (trodAll_cons_mk (Below.trod Trym.laidOut (by kernel_rfl) (of_decide_eq_true (by kernel_rfl)) k3 bel lt3) (trodAll_cons_mk (Below.trod Trym.laidOut (by kernel_rfl) (of_decide_eq_true (by kernel_rfl)) k4 bel lt4) trodAll_mk0))))), rfl, bel.frame _, fun h => by cases h⟩

theorem over : Rows.fnValueDomainsDistinctExactlyWhenRootsDifferRow.holds Trym.pinned (OpenSpec.ofChange Rows.fnValueDomainsDistinctExactlyWhenRootsDifferSpec) :=
  OpenClaim.holds_of_wide 3 Trym.f3 rfl rfl rfl rfl rfl rfl rfl ⟨rfl, rfl, rfl, rfl, rfl⟩ rfl rfl rfl rfl rfl (by kernel_rfl) Trym.func3 (by kernel_rfl)
    (of_decide_eq_true (by kernel_rfl)) (by unfold Func.isWrapper; first | (rw [if_pos (by decide +kernel)]; kernel_rfl) | (rw [if_neg (by decide +kernel)]; exact ⟨rfl, rfl⟩))
    (fun os started H enc _ => lifted os started H enc)

/-- THE STATEMENT. -/
theorem proved : Rows.FnValueDomainsDistinctExactlyWhenRootsDifferSaid := over
end Go.Proofs.Qxb6603045aMods
