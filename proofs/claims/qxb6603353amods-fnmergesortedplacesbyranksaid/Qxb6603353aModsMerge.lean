import Derived.Test.Qxb6603353aModsReads
import Derived.Deep.RegionHeld3
import Derived.Deep.RegionLaw
namespace Go.Proofs.Qxb6603353aMods
open Go.RowKit
set_option linter.unusedVariables false

/-- append WITHIN THE CAPACITY of a row of the call's own, as one step of a region that draws. -/
theorem step_append_fits {P : Program} {ops : Array Oper} {o : Oper} {a : Act} {w : World} {K : Act → World → Prop} {Q : Exit → Act → World → Prop} {E : Prop}
    (hg : o.guard = none) (s x : Operand) (t : TypeId) (hop : o.op = Op.call { callee := Callee.builtin Builtin.append, args := #[s, x], argTypes := #[t, t] })
    (base : Nat) (e : TypeId) (i : TypeInfo) (size : Nat) (h1 : P.underlying t = some (.slice e)) (h2 : P.info? e = some i) (h4 : i.size = size)
    (g k cap : Nat) (xs : List Value) (hs : a.eval s = .slice (some ⟨g, 0, none⟩) k cap) (hown : w.ownsRow base e size (.slice (some ⟨g, 0, none⟩) k cap) k xs) (ad : Addr) (m c : Nat) (news : List Value) (hx : a.eval x = .slice (some ad) m c) (hn : news.length = m * size)
    (hc : ∀ j u, news[j]? = some u → w.cell? (ad.add j) = some u) (h1c : ∀ u ∈ news, u.oneCell' = true) (b1 : k + m ≤ cap)
    (hK : ∀ w', w'.ownsRow base e size (.slice (some ⟨g, 0, none⟩) (k + m) cap) (k + m) (xs ++ news) → w.grownBy w' (some g) → K (a.put o.dst (.slice (some ⟨g, 0, none⟩) (k + m) cap)) w') :
    if Region.wanted o (yielded ops a.tmps) = true then Oper.wp P o a w K Q else E := by
  have hw : Region.wanted o (yielded ops a.tmps) = true := by simp [Region.wanted, hg]
  rw [if_pos hw]
  obtain ⟨w', hrun, r1, r2⟩ := run_append_fits (P := P) w base t o.type e i size h1 h2 h4 g k cap xs hown ad m c news hn hc h1c b1
  unfold Oper.wp
  simp [execOp, hop, resolve, invoke, builtin, hs, hx, hrun, Result.andThen]
  exact hK w' r1 r2

/-- The length in a slot. -/
def lenOf : Value → Nat | .slice _ n _ => n | _ => 0

/-- What is left of a slice of keys. -/
def Cut (w : World) (a : Option Addr) (n c : Nat) (xs : List Int) : Prop :=
  xs.length = n ∧ n ≤ c ∧ c ≤ 65536 ∧ (a = none → n = 0 ∧ c = 0) ∧ (n < 1 ∨ ∃ b off, a = some ⟨b, off, none⟩ ∧ ∀ i, i < n → w.cell? ⟨b, off + i, none⟩ = some (.int .u64 (xs.getD i 0)))

theorem Own.cut {w : World} {B : Nat} {a : Option Addr} {n : Nat} {xs : List Int} (h : Own w B a n xs) (hx : xs.length = n) (hl : n ≤ 65536) : Cut w a n n xs := by
  refine ⟨hx, Nat.le_refl _, hl, ?_, ?_⟩
  · intro ha
    rcases h with ⟨_, h0⟩ | ⟨h', _⟩
    · exact ⟨h0, h0⟩
    · rw [ha] at h'; cases h'
  · rcases h with ⟨_, h0⟩ | ⟨h', hB, hc⟩
    · exact Or.inl (by omega)
    · exact Or.inr ⟨B, 0, h', fun i hi => by rw [Nat.zero_add]; exact hc i hi⟩

theorem Cut.tail {w : World} {b off n c : Nat} {xs : List Int} (h : Cut w (some ⟨b, off, none⟩) n c xs) (hn : 0 < n) :
    Cut w (if c = 1 then some ⟨b, off, none⟩ else some ⟨b, off + 1, none⟩) (n - 1) (c - 1) xs.tail := by
  obtain ⟨hl, hc, hm, _, hs⟩ := h
  refine ⟨by simp [hl], by omega, by omega, ?_, ?_⟩
  · intro hnone
    split at hnone <;> cases hnone
  · rcases hs with hz | ⟨b', o', he, hcell⟩
    · omega
    · cases he
      by_cases h1 : n - 1 < 1
      · exact Or.inl h1
      · right
        refine ⟨b, off + 1, if_neg (by omega), fun i hi => ?_⟩
        rw [show off + 1 + i = off + (i + 1) from by omega, hcell (i + 1) (by omega)]
        cases xs with
        | nil => simp at hl; omega
        | cons x xs => simp

theorem cons_of {l : List Int} {n : Nat} (hl : l.length = n) (hn : 0 < n) {x : Int} (hx : l.getD 0 0 = x) : l = x :: l.tail := by
  cases l with
  | nil => simp at hl; omega
  | cons y l => simp at hx; simp [hx]

theorem step_b {A' B' A B xs : List Int} {x y : Int} {na nb : Nat} (hA : A'.length = na) (hB : B'.length = nb) (pa : 0 < na) (pb : 0 < nb) (hx : A'.getD 0 0 = x) (hy : B'.getD 0 0 = y) (h : xs ++ mrg A' B' = mrg A B) (hyx : y < x) :
    (xs ++ [y]) ++ mrg A' B'.tail = mrg A B := by
  rw [← h, cons_of hA pa hx, cons_of hB pb hy, mrg_b _ _ _ _ hyx]
  simp

theorem step_a {A' B' A B xs : List Int} {x y : Int} {na nb : Nat} (hA : A'.length = na) (hB : B'.length = nb) (pa : 0 < na) (pb : 0 < nb) (hx : A'.getD 0 0 = x) (hy : B'.getD 0 0 = y) (h : xs ++ mrg A' B' = mrg A B) (hyx : ¬ y < x) :
    (xs ++ [x]) ++ mrg A'.tail B' = mrg A B := by
  rw [← h, cons_of hA pa hx, cons_of hB pb hy, mrg_a _ _ _ _ hyx]
  simp

theorem step_end {A' B' A B xs : List Int} {na nb : Nat} (hA : A'.length = na) (hB : B'.length = nb) (hp : ¬ (0 < na ∧ 0 < nb)) (h : xs ++ mrg A' B' = mrg A B) : xs ++ A' ++ B' = mrg A B := by
  rw [← h]
  by_cases h0 : na = 0
  · obtain rfl : A' = [] := List.eq_nil_of_length_eq_zero (by omega)
    rw [mrg_nil_left]; simp
  · obtain rfl : B' = [] := List.eq_nil_of_length_eq_zero (by omega)
    rw [mrg_nil_right]; simp

theorem after_append {w wr w1 : World} {n : Nat} {o : Obj} (hnx : Below w.heap.size w wr) (hg : ((wr.drewN n).alloc o).grownBy w1 (some w.heap.size)) : Below w.heap.size w w1 := by
  have h1 : Below w.heap.size w (wr.drewN n) := hnx.trans ⟨rfl, rfl, rfl, Nat.le_refl _, fun _ _ => rfl⟩
  have h2 : Below w.heap.size w ((wr.drewN n).alloc o) := h1.alloc h1.size o
  exact h2.grown hg h2.size (fun k hk => by cases hk; exact Nat.le_refl _)

theorem new_one (W : World) (v : Value) (t : TypeId) : (W.alloc (.cells #[v] t)).cell? ⟨W.heap.size, 0, none⟩ = some v := by simp

theorem Cut.news {w w' : World} {a : Option Addr} {n c : Nat} {xs : List Int} (h : Cut w a n c xs) (hb : Below w.heap.size w w') :
    ∀ ad, a = some ad → ∀ j u, (xs.map (Value.int .u64))[j]? = some u → w'.cell? (ad.add j) = some u := by
  intro ad had j u hu
  obtain ⟨hl, _, _, _, hs⟩ := h
  rw [List.getElem?_map] at hu
  obtain ⟨x, hx, rfl⟩ := Option.map_eq_some_iff.1 hu
  obtain ⟨hj, hx'⟩ := List.getElem?_eq_some_iff.1 hx
  rcases hs with hz | ⟨b, off, he, hc⟩
  · omega
  · rw [had] at he
    cases he
    rw [Go.WideShapes.add_plain]
    have := hc j (by omega)
    rw [List.getD_eq_getElem?_getD, hx] at this
    exact cell_later hb this

theorem one_news (wr : World) (n : Nat) (x : Int) : ∀ j u, [Value.int .u64 x][j]? = some u → ((wr.drewN n).alloc (.cells #[.int .u64 x] 28)).cell? ((⟨wr.heap.size, 0, none⟩ : Addr).add j) = some u := by
  intro j u hj
  rw [Go.WideShapes.add_plain]
  match j, hj with
  | 0, hj =>
    simp at hj
    subst hj
    exact new_one (wr.drewN n) _ 28

theorem one_cell (x : Int) : ∀ u ∈ [Value.int .u64 x], u.oneCell' = true := by
  intro u hu
  simp at hu
  subst hu
  rfl

set_option maxHeartbeats 2000000 in
theorem merge_any (a0 b0 : Option Addr) (la lb : Nat) (A B : List Int) (w : World) (ha : Cut w a0 la la A) (hb : Cut w b0 lb lb B) :
    Calls Trym.prog 16 #[.slice a0 la la, .slice b0 lb lb] w fun e w' =>
      e = .returned (.slice (some ⟨w.heap.size, 0, none⟩) (la + lb) (la + lb)) ∧ w'.ownsRow w.heap.size 28 1 (.slice (some ⟨w.heap.size, 0, none⟩) (la + lb) (la + lb)) (la + lb) ((mrg A B).map (Value.int .u64)) ∧ Below w.heap.size w w' := by
  obtain ⟨i0, hi, hz0, hz1, hz2⟩ := info_parts Trym.info28
  have l0 : la ≤ 65536 := ha.2.2.1
  have l1 : lb ≤ 65536 := hb.2.2.1
  go_enter Trym.func16, Trym.ntmps16
  go_wp2_with (at_make; refine wpList_make_own _ rfl _ _ 22 rfl w.heap.size 28 i0 (.int .u64 0) 1 Trym.underlying22 hi hz0 hz1 _ _ _ (la + lb) rfl rfl (by omega) (by rw [hz2]; omega) (by unfold maxLen; omega) (Nat.le_refl _) ?_)
  intro w0 hown0 hgrow0
  go_wp2
  go_loopw [0, 1, 5] (fun sa sb out wr => ∃ (aa ab : Option Addr) (na ca nb cb k : Nat) (A' B' xs : List Int), sa = .slice aa na ca ∧ sb = .slice ab nb cb ∧ out = .slice (some ⟨w.heap.size, 0, none⟩) k (la + lb) ∧ k + na + nb = la + lb ∧
      Cut w aa na ca A' ∧ Cut w ab nb cb B' ∧ wr.ownsRow w.heap.size 28 1 (.slice (some ⟨w.heap.size, 0, none⟩) k (la + lb)) k (xs.map (Value.int .u64)) ∧ Hid (xs ++ mrg A' B' = mrg A B) ∧ Below w.heap.size w wr)
    (fun sa sb _ _ => lenOf sa + lenOf sb)
  case atStart => exact ⟨a0, b0, la, la, lb, lb, 0, A, B, [], rfl, rfl, rfl, by omega, ha, hb, hown0, by rfl, (Below.refl _ _).grown hgrow0 (Nat.le_refl _) (fun k h => by cases h)⟩
  case round =>
    obtain ⟨aa, ab, na, ca, nb, cb, k, A', B', xs, rfl, rfl, rfl, hsum, hA, hB, hown, HM, hnx⟩ := hrel
    obtain ⟨hAl, hAc, hAm, hAn, hAs⟩ := id hA
    obtain ⟨hBl, hBc, hBm, hBn, hBs⟩ := id hB
    have HAL : Hid (A'.length = na) := hAl
    have HBL : Hid (B'.length = nb) := hBl
    have hle : k + na + nb ≤ la + lb := by omega
    have HSUM : Hid (k + na + nb = la + lb) := hsum
    have hb1 : w.heap.size ≤ wr.heap.size := hnx.size
    clear hown0 hgrow0 ha hb hAl hBl hsum
    by_cases hpos : 0 < na ∧ 0 < nb
    · obtain ⟨pa, pb⟩ := hpos
      rcases hAs with hz | ⟨ba, oa, rfl, hcA⟩
      · omega
      rcases hBs with hz | ⟨bb, ob, rfl, hcB⟩
      · omega
      have g1 : w.cell? ⟨ba, oa, none⟩ = some (.int .u64 (A'.getD 0 0)) := hcA 0 pa
      have g2 : w.cell? ⟨bb, ob, none⟩ = some (.int .u64 (B'.getD 0 0)) := hcB 0 pb
      have gA := cell_later hnx g1
      have gB := cell_later hnx g2
      have nA := World.new_ne wr ⟨ba, oa, none⟩ gA
      have nB := World.new_ne wr ⟨bb, ob, none⟩ gB
      generalize hx : A'.getD 0 0 = x at gA g1
      generalize hy : B'.getD 0 0 = y at gB g2
      have HXE : Hid (A'.getD 0 0 = x) := hx
      have HYE : Hid (B'.getD 0 0 = y) := hy
      have G1 : Hid (w.cell? ⟨ba, oa, none⟩ = some (.int .u64 x)) := g1
      have G2 : Hid (w.cell? ⟨bb, ob, none⟩ = some (.int .u64 y)) := g2
      have TA := hA.tail pa
      have TB := hB.tail pb
      clear hx hy hcA hcB g1 g2 hAn hBn
      have pa' : (0 : Int) < (na : Int) := by omega
      have pb' : (0 : Int) < (nb : Int) := by omega
      have ja1 : (1 : Int) ≤ (na : Int) := by omega
      have jb1 : (1 : Int) ≤ (nb : Int) := by omega
      have ja2 : (na : Int) ≤ (ca : Int) := by omega
      have jb2 : (nb : Int) ≤ (cb : Int) := by omega
      by_cases hyx : y < x
      · have HN := step_b HAL.out HBL.out pa pb HXE.out HYE.out HM.out hyx
        have HN' : Hid (xs ++ [y] ++ mrg A' B'.tail = mrg A B) := HN
        clear HN
        go_wp2
        go_quiet (fail)
        go_wp2
        go_region_held3 (fun w' => w'.cell? ⟨bb, ob, none⟩ = some (.int .u64 y)) (first | go_keep | (exact cell_later (after_append hnx hgrow1) G2.out)) ((refine step_append_fits (by rfl) (.tmp 27) (.tmp 31) 22 (by rfl) w.heap.size 28 i0 1 Trym.underlying22 hi hz1 w.heap.size k (la + lb) (xs.map (Value.int .u64)) (by rfl) (World.ownsRow.alloc (w := wr.drewN (nq + 1)) hown _) ⟨wr.heap.size, 0, none⟩ 1 1 [.int .u64 y] (by rfl) (by rfl) (one_news wr (nq + 1) y) (one_cell y) (by omega) ?_; intro w1 hown1 hgrow1))
        go_wp2
        go_roundw
        case rel => exact ⟨_, _, na, ca, nb - 1, cb - 1, k + 1, A', B'.tail, xs ++ [y], rfl, rfl, rfl, by have := HSUM.out; omega, hA, TB, by simpa using hown1, HN', after_append hnx hgrow1⟩
        case measure => simp [lenOf]; omega
      · have HN' : Hid (xs ++ [x] ++ mrg A'.tail B' = mrg A B) := step_a HAL.out HBL.out pa pb HXE.out HYE.out HM.out hyx
        go_wp2
        go_quiet (fail)
        go_wp2
        go_region_held3 (fun w' => w'.cell? ⟨ba, oa, none⟩ = some (.int .u64 x)) (first | go_keep | (exact cell_later (after_append hnx hgrow1) G1.out)) ((refine step_append_fits (by rfl) (.tmp 35) (.tmp 39) 22 (by rfl) w.heap.size 28 i0 1 Trym.underlying22 hi hz1 w.heap.size k (la + lb) (xs.map (Value.int .u64)) (by rfl) (World.ownsRow.alloc (w := wr.drewN (nq + 1)) hown _) ⟨wr.heap.size, 0, none⟩ 1 1 [.int .u64 x] (by rfl) (by rfl) (one_news wr (nq + 1) x) (one_cell x) (by omega) ?_; intro w1 hown1 hgrow1))
        go_wp2
        go_roundw
        case rel => exact ⟨_, _, na - 1, ca - 1, nb, cb, k + 1, A'.tail, B', xs ++ [x], rfl, rfl, rfl, by have := HSUM.out; omega, TA, hB, by simpa using hown1, HN', after_append hnx hgrow1⟩
        case measure => simp [lenOf]; omega
    · have HE : Hid (xs ++ A' ++ B' = mrg A B) := step_end HAL.out HBL.out hpos HM.out
      have hnA : (A'.map (Value.int .u64)).length = na * 1 := by simp [HAL.out]
      have hnB : (B'.map (Value.int .u64)).length = nb * 1 := by simp [HBL.out]
      have NA : Hid _ := hA.news hnx
      clear hAs hBs
      go_wp2_with (first
        | (at_builtin; refine wpList_append_fits_any _ rfl (.tmp 43) (.tmp 44) 22 rfl w.heap.size 28 i0 1 Trym.underlying22 hi hz1 w.heap.size k (la + lb) _ rfl hown aa na ca (A'.map (Value.int .u64)) rfl hnA hAn NA.out (ints_oneCell _ _) (by omega) ?_; intro w1 hown1 hgrow1; have bel1 : Below w.heap.size w w1 := hnx.grown hgrow1 hb1 (fun k hk => by cases hk; exact Nat.le_refl _))
        | (at_builtin; refine wpList_append_fits_any _ rfl (.tmp 45) (.tmp 46) 22 rfl w.heap.size 28 i0 1 Trym.underlying22 hi hz1 w.heap.size (k + na) (la + lb) _ rfl hown1 ab nb cb (B'.map (Value.int .u64)) rfl hnB hBn (hB.news bel1) (ints_oneCell _ _) (by omega) ?_; intro w2 hown2 hgrow2))
      all_goals
        go_ret
        have el : List.map (Value.int .u64) xs ++ List.map (Value.int .u64) A' ++ List.map (Value.int .u64) B' = (mrg A B).map (Value.int .u64) := by rw [← HE.out]; simp
        have e := HSUM.out
        rw [e, el] at hown2
        refine ⟨?_, hown2, bel1.grown hgrow2 bel1.size (fun k hk => by cases hk; exact Nat.le_refl _)⟩
        show Ending.returned (Value.slice _ (k + na + nb) _) = _
        rw [e]

set_option maxHeartbeats 400000 in
theorem zzmerge_any (a0 b0 : Option Addr) (la lb : Nat) (A B : List Int) (w : World) (ha : Cut w a0 la la A) (hb : Cut w b0 lb lb B) :
    Calls Trym.prog 9 #[.slice a0 la la, .slice b0 lb lb] w fun e w' =>
      e = .returned (.slice (some ⟨w.heap.size, 0, none⟩) (la + lb) (la + lb)) ∧ w'.ownsRow w.heap.size 28 1 (.slice (some ⟨w.heap.size, 0, none⟩) (la + lb) (la + lb)) (la + lb) ((mrg A B).map (Value.int .u64)) ∧ Below w.heap.size w w' := by
  go_enter Trym.func9, Trym.ntmps9
  go_wp2_with (go_at_call 16; refine (merge_any a0 b0 la lb A B _ ha hb).mono ?_; rintro e w' ⟨rfl, hown, hbel⟩)
  go_ret
  exact ⟨rfl, hown, hbel⟩

end Go.Proofs.Qxb6603353aMods
