import Derived.Test.Qxb6603158aModsLeaf
import Derived.Deep.RegionHeld3
import Derived.Deep.RegionLawGrows
import Derived.Deep.AppendLies
import Derived.Laws.AppendOwnNone
namespace Go.Proofs.Qxb6603158aMods
open Go.RowKit
set_option linter.unusedVariables false

theorem ownBlock_ge {w : World} {base e size : Nat} {v : Value} {n : Nat} {ys : List Value} (h : w.ownsRow base e size v n ys) : ∀ k, v.ownBlock = some k → base ≤ k := by
  intro k hk
  rcases h.2 with ⟨rfl, _⟩ | ⟨g, cap, cur, rfl, hb, _⟩
  · cases hk
  · cases hk
    exact hb

/-- 'append(v, xs...)', v a row of the call's own, xs nil or not. -/
theorem wpList_append_src {P : Program} (w : World) {ops : Array Oper} {rest : List Oper} {o : Oper} {a : Act} {Q : Exit → Act → World → Prop} (hgd : o.guard = none) (s x : Operand) (t : TypeId)
    (ho : o.op = .call { callee := .builtin .append, args := #[s, x], argTypes := #[t, t] })
    (base : Nat) (e : TypeId) (i : TypeInfo) (z : Value) (ht : P.underlying t = some (.slice e)) (hi : P.info? e = some i) (hz : i.zero = some z)
    (hsize : i.size = 1) (hby : i.bytes = 1) (hzs : z.cells.size = 1)
    (v : Value) (n : Nat) (ys : List Value) (hs : a.eval s = v) (hown : w.ownsRow base e 1 v n ys)
    (ax : Option Addr) (m c : Nat) (hx : a.eval x = .slice ax m c) (news : List Value) (hnil : ax = none → m = 0 ∧ c = 0) (hl : news.length = m)
    (hnews : ∀ ad, ax = some ad → ∀ j u, news[j]? = some u → w.cell? (ad.add j) = some u) (h1 : ∀ u ∈ news, u.oneCell' = true)
    (hb : n + m ≤ 200000) (hbase : base ≤ w.heap.size)
    (h : ∀ v' w', w'.ownsRow base e 1 v' (n + m) (ys ++ news) → w.grownBy w' v.ownBlock → wpList P ops Q rest (a.put o.dst v') w') : wpList P ops Q (o :: rest) a w := by
  cases ax with
  | none =>
    obtain ⟨rfl, rfl⟩ := hnil rfl
    obtain rfl : news = [] := List.eq_nil_of_length_eq_zero hl
    refine wpList_append_own_none hgd s x t ho base e i 1 ht hi v n ys hs hown hx ?_
    exact h v w (by simpa using hown) ⟨rfl, rfl, rfl, Nat.le_refl _, fun _ _ _ => rfl⟩
  | some ad =>
    exact wpList_append_own w hgd s x t ho base e i z 1 1 ht hi hz hsize hby hzs (by decide) v n ys hs hown ad m c news hx (by simpa using hl) (hnews ad rfl) h1 (by unfold maxLen; omega) (by omega) hbase
      (fun v' w' h2 h3 _ => h v' w' h2 h3)

theorem Own.nil {w : World} {B : Nat} {a : Option Addr} {n : Nat} {xs : List Int} (h : Own w B a n xs) : a = none → n = 0 ∧ n = 0 := by
  intro ha
  rcases h with ⟨_, h0⟩ | ⟨h', _⟩
  · exact ⟨h0, h0⟩
  · rw [ha] at h'; cases h'

theorem Own.news {w w' : World} {B : Nat} {a : Option Addr} {n : Nat} {xs : List Int} (h : Own w B a n xs) (hxl : xs.length = n) (hb : Below w.heap.size w w') :
    ∀ ad, a = some ad → ∀ j u, (xs.map (Value.int .u8))[j]? = some u → w'.cell? (ad.add j) = some u := by
  intro b hbe j u hu
  rcases h with ⟨h', _⟩ | ⟨h', hB, hc⟩
  · rw [h'] at hbe; cases hbe
  · rw [h'] at hbe
    cases hbe
    rw [List.getElem?_map] at hu
    obtain ⟨x, hx, rfl⟩ := Option.map_eq_some_iff.1 hu
    obtain ⟨hj, hx'⟩ := List.getElem?_eq_some_iff.1 hx
    have := hc j (by omega)
    rw [List.getD_eq_getElem?_getD, hx] at this
    refine cell_later hb ?_
    rw [Go.WideShapes.add_plain]
    simpa using this

/-- The structure that AppendAuth is handed. -/
def Auth (w : World) (p : Nat) (ai : Option Addr) (ni : Nat) (av : Option Addr) (nv : Nat) (d0 d1 d2 d3 d4 d5 d6 d7 cf : Int) : Prop :=
  w.heap[p]? = some (.cells #[.slice ai ni ni, .slice av nv nv, .int .u8 d0, .int .u8 d1, .int .u8 d2, .int .u8 d3, .int .u8 d4, .int .u8 d5, .int .u8 d6, .int .u8 d7, .int .u8 cf] 29 (0, 0))

theorem Auth.below {w w' : World} {p : Nat} {ai : Option Addr} {ni : Nat} {av : Option Addr} {nv : Nat} {d0 d1 d2 d3 d4 d5 d6 d7 cf : Int} (h : Auth w p ai ni av nv d0 d1 d2 d3 d4 d5 d6 d7 cf) (hb : Below w.heap.size w w') :
    Auth w' p ai ni av nv d0 d1 d2 d3 d4 d5 d6 d7 cf := by
  have : p < w.heap.size := (Array.getElem?_eq_some_iff.1 h).1
  unfold Auth
  rw [hb.block p this]
  exact h

theorem Auth.c0 {w : World} {p : Nat} {ai : Option Addr} {ni : Nat} {av : Option Addr} {nv : Nat} {d0 d1 d2 d3 d4 d5 d6 d7 cf : Int} (h : Auth w p ai ni av nv d0 d1 d2 d3 d4 d5 d6 d7 cf) : w.cell? ⟨p, 0, none⟩ = some (.slice ai ni ni) := by rw [cell_of_row w p 0 _ _ _ h]; rfl
theorem Auth.c1 {w : World} {p : Nat} {ai : Option Addr} {ni : Nat} {av : Option Addr} {nv : Nat} {d0 d1 d2 d3 d4 d5 d6 d7 cf : Int} (h : Auth w p ai ni av nv d0 d1 d2 d3 d4 d5 d6 d7 cf) : w.cell? ⟨p, 1, none⟩ = some (.slice av nv nv) := by rw [cell_of_row w p 1 _ _ _ h]; rfl
theorem Auth.c10 {w : World} {p : Nat} {ai : Option Addr} {ni : Nat} {av : Option Addr} {nv : Nat} {d0 d1 d2 d3 d4 d5 d6 d7 cf : Int} (h : Auth w p ai ni av nv d0 d1 d2 d3 d4 d5 d6 d7 cf) : w.cell? ⟨p, 10, none⟩ = some (.int .u8 cf) := by rw [cell_of_row w p 10 _ _ _ h]; rfl
theorem Auth.news {w : World} {p : Nat} {ai : Option Addr} {ni : Nat} {av : Option Addr} {nv : Nat} {d0 d1 d2 d3 d4 d5 d6 d7 cf : Int} (h : Auth w p ai ni av nv d0 d1 d2 d3 d4 d5 d6 d7 cf) :
    ∀ ad, some (⟨p, 2, none⟩ : Addr) = some ad → ∀ j u, ([d0, d1, d2, d3, d4, d5, d6, d7].map (Value.int .u8))[j]? = some u → w.cell? (ad.add j) = some u := by
  intro ad had j u hj
  cases had
  rw [Go.WideShapes.add_plain, cell_of_row w p (2 + j) _ _ _ h]
  match j, hj with
  | 0, hj => simpa using hj
  | 1, hj => simpa using hj
  | 2, hj => simpa using hj
  | 3, hj => simpa using hj
  | 4, hj => simpa using hj
  | 5, hj => simpa using hj
  | 6, hj => simpa using hj
  | 7, hj => simpa using hj

theorem one_news (w : World) (x : Int) : ∀ ad, some (⟨w.heap.size, 0, none⟩ : Addr) = some ad → ∀ j u, ([x].map (Value.int .u8))[j]? = some u → (w.alloc (.cells #[.int .u8 x] 5)).cell? (ad.add j) = some u := by
  intro ad had j u hj
  cases had
  rw [Go.WideShapes.add_plain]
  match j, hj with
  | 0, hj => simp at hj; subst hj; simp

set_option maxHeartbeats 1000000 in
theorem append_any (ao : Option Addr) (B n : Nat) (xs : List Int) (p : Nat) (ai : Option Addr) (Bi ni : Nat) (is : List Int) (av : Option Addr) (Bv nv : Nat) (vs : List Int) (d0 d1 d2 d3 d4 d5 d6 d7 cf : Int) (w : World)
    (hb : Own w B ao n xs) (hid : Own w Bi ai ni is) (hval : Own w Bv av nv vs) (hxl : xs.length = n) (hil : is.length = ni) (hvl : vs.length = nv) (ln : n ≤ 65536) (li : ni ≤ 255) (lv : nv ≤ 255)
    (hp : Auth w p ai ni av nv d0 d1 d2 d3 d4 d5 d6 d7 cf) :
    Calls Trym.prog 7 #[.slice ao n n, .pointer (some ⟨p, 0, none⟩)] w fun e w' => ∃ v, e = .returned v ∧
      w'.ownsRow (w.heap.size + 1) 5 1 v (n + 4 + ni + nv + 8 + 1) ((xs ++ [0, 1, (ni : Int), (nv : Int)] ++ is ++ vs ++ [d0, d1, d2, d3, d4, d5, d6, d7] ++ [cf]).map (.int .u8)) ∧ Below w.heap.size w w' := by
  obtain ⟨i0, hi, hz0, hz1, hz2⟩ := info_parts Trym.info5
  have p0 := hp.c0
  have p1 := hp.c1
  have wi : IntKind.u8.wrap (ni : Int) = (ni : Int) := by simp [IntKind.wrap, IntKind.signed, IntKind.bits]; omega
  have wv : IntKind.u8.wrap (nv : Int) = (nv : Int) := by simp [IntKind.wrap, IntKind.signed, IntKind.bits]; omega
  have hpl : p < w.heap.size := (Array.getElem?_eq_some_iff.1 hp).1
  have bel0 : Below w.heap.size w (w.alloc (.cells #[.int .u8 0, .int .u8 1, .int .u8 ni, .int .u8 nv] 5)).drew := ((Below.refl _ _).alloc (Nat.le_refl _) _).drew
  have hnone := hb.nil
  have hlo : (xs.map (Value.int .u8)).length = n * 1 := by simp [hxl]
  have hold := hb.news hxl bel0
  have hnews : ∀ j u, [Value.int .u8 0, .int .u8 1, .int .u8 (ni : Int), .int .u8 (nv : Int)][j]? = some u → (w.alloc (.cells #[.int .u8 0, .int .u8 1, .int .u8 ni, .int .u8 nv] 5)).drew.cell? ((⟨w.heap.size, 0, none⟩ : Addr).add j) = some u := by
    intro j u hj
    rw [Go.WideShapes.add_plain]
    match j, hj with
    | 0, hj => simp at hj; subst hj; simp
    | 1, hj => simp at hj; subst hj; simp
    | 2, hj => simp at hj; subst hj; simp
    | 3, hj => simp at hj; subst hj; simp
  have hone : ∀ u ∈ [Value.int .u8 0, .int .u8 1, .int .u8 (ni : Int), .int .u8 (nv : Int)], u.oneCell' = true := by
    intro u hu
    simp at hu
    rcases hu with rfl | rfl | rfl | rfl <;> rfl
  have np := World.new_ne w ⟨p, 0, none⟩ p0
  have np' := World.new_ne w ⟨p, 1, none⟩ p1
  go_enter Trym.func7, Trym.ntmps7
  go_wp2
  go_region_held3 (fun w' => w'.cell? ⟨p, 0, none⟩ = some (.slice ai ni ni) ∧ w'.cell? ⟨p, 1, none⟩ = some (.slice av nv nv)) (first | go_keep | (exact ⟨cell_later (bel0.grown hgrow1 (by simp) (fun k h => by cases h)) p0, cell_later (bel0.grown hgrow1 (by simp) (fun k h => by cases h)) p1⟩)) ((refine step_append_grows (by rfl) (.tmp 5) (.tmp 18) 22 (by rfl) 5 i0 (.int .u8 0) 1 1 Trym.underlying22 hi hz0 hz1 hz2 (by rfl) (by decide) ao n n (xs.map (.int .u8)) (by rfl) hnone hlo hold ⟨w.heap.size, 0, none⟩ 4 4 [.int .u8 0, .int .u8 1, .int .u8 (ni : Int), .int .u8 (nv : Int)] (by rfl) (by rfl) hnews hone (by omega) (by unfold maxLen; omega) (by omega) ?_; intro v1 w1 hown1 hgrow1))
  have bel1 : Below w.heap.size w w1 := bel0.grown hgrow1 (by simp) (fun k h => by cases h)
  have hs1 : w.heap.size + 1 ≤ w1.heap.size := by have := hgrow1.size; simpa using this
  have hownA : w1.ownsRow (w.heap.size + 1) 5 1 v1 (n + 4) ((xs ++ [0, 1, (ni : Int), (nv : Int)]).map (Value.int .u8)) := by simpa using hown1
  have g0 := cell_later bel1 p0
  have hidn := hid.nil
  have hvaln := hval.nil
  have HI : Hid _ := hid.news hil bel1
  have HV : Hid (∀ w', Below w.heap.size w w' → ∀ ad, av = some ad → ∀ j u, (vs.map (Value.int .u8))[j]? = some u → w'.cell? (ad.add j) = some u) := fun w' hb => hval.news hvl hb
  clear hown1 hgrow1 hold hnews hone np np' bel0 hnone hlo wi wv
  go_wp2_with (first
    | (at_builtin; refine wpList_append_src _ rfl (.tmp 20) (.tmp 24) 22 rfl (w.heap.size + 1) 5 i0 (.int .u8 0) Trym.underlying22 hi hz0 hz1 hz2 rfl v1 (n + 4) _ rfl hownA ai ni ni rfl (is.map (.int .u8)) hidn (by simp [hil]) HI.out (ints_oneCell _ _) (by omega) hs1 ?_; intro v2 w2 hown2 hgrow2; have bel2 := bel1.grown hgrow2 (by omega) (fun k hk => by have := ownBlock_ge hownA k hk; omega); have hs2 := Nat.le_trans hs1 hgrow2.size; have g1 := cell_later bel2 p1)
    | (at_builtin; refine wpList_append_src _ rfl (.tmp 26) (.tmp 30) 22 rfl (w.heap.size + 1) 5 i0 (.int .u8 0) Trym.underlying22 hi hz0 hz1 hz2 rfl v2 (n + 4 + ni) _ rfl hown2 av nv nv rfl (vs.map (.int .u8)) hvaln (by simp [hvl]) (HV.out _ bel2) (ints_oneCell _ _) (by omega) hs2 ?_; intro v3 w3 hown3 hgrow3; have bel3 := bel2.grown hgrow3 (by omega) (fun k hk => by have := ownBlock_ge hown2 k hk; omega); have hs3 := Nat.le_trans hs2 hgrow3.size)
    | (at_builtin; refine wpList_append_src _ rfl (.tmp 32) (.tmp 36) 22 rfl (w.heap.size + 1) 5 i0 (.int .u8 0) Trym.underlying22 hi hz0 hz1 hz2 rfl v3 (n + 4 + ni + nv) _ rfl hown3 (some ⟨p, 2, none⟩) 8 8 rfl ([d0, d1, d2, d3, d4, d5, d6, d7].map (.int .u8)) (fun h => by cases h) rfl (hp.below bel3).news (ints_oneCell _ _) (by omega) hs3 ?_; intro v4 w4 hown4 hgrow4; have bel4 := bel3.grown hgrow4 (by omega) (fun k hk => by have := ownBlock_ge hown3 k hk; omega); have hs4 := Nat.le_trans hs3 hgrow4.size; have g10 := (hp.below bel4).c10)
    | (at_builtin; refine wpList_append_src _ rfl (.tmp 38) (.tmp 43) 22 rfl (w.heap.size + 1) 5 i0 (.int .u8 0) Trym.underlying22 hi hz0 hz1 hz2 rfl v4 (n + 4 + ni + nv + 8) _ rfl (hown4.alloc _) (some ⟨w4.heap.size, 0, none⟩) 1 1 rfl ([cf].map (.int .u8)) (fun h => by cases h) rfl (one_news w4 cf) (ints_oneCell _ _) (by omega) (by simp; omega) ?_; intro v5 w5 hown5 hgrow5))
  go_ret
  refine ⟨v5, rfl, by simpa [List.append_assoc] using hown5, (bel4.alloc (by omega) _).grown hgrow5 (by simp; omega) (fun k hk => by have := ownBlock_ge hown4 k hk; omega)⟩

end Go.Proofs.Qxb6603158aMods
