import Derived.Test.Qxb6603156aModsLeaf
namespace Go.Proofs.Qxb6603156aMods
open Go.RowKit
set_option linter.unusedVariables false

/-- A schema in memory, its members beside the first five as they are made. -/
def Sch (w : World) (b : Nat) (ref : ByteArray) (all : Value) (desc typ fmt : ByteArray) : Prop :=
  w.heap[b]? = some (.cells #[.string ref, all, .string desc, .string typ, .string fmt, .pointer none, .map none, .pointer none, .slice none 0 0] 28 (0, 0))

theorem Sch.below {w w' : World} {b : Nat} {ref : ByteArray} {all : Value} {desc typ fmt : ByteArray} (h : Sch w b ref all desc typ fmt) (hb : Below w.heap.size w w') : Sch w' b ref all desc typ fmt := by
  have : b < w.heap.size := (Array.getElem?_eq_some_iff.1 h).1
  unfold Sch
  rw [hb.block b this]
  exact h

theorem Sch.lt {w : World} {b : Nat} {ref : ByteArray} {all : Value} {desc typ fmt : ByteArray} (h : Sch w b ref all desc typ fmt) : b < w.heap.size := (Array.getElem?_eq_some_iff.1 h).1

theorem Sch.c0 {w : World} {b : Nat} {ref : ByteArray} {all : Value} {desc typ fmt : ByteArray} (h : Sch w b ref all desc typ fmt) : w.cell? ⟨b, 0, none⟩ = some (.string ref) := by rw [cell_of_row w b 0 _ _ _ h]; rfl
theorem Sch.c1 {w : World} {b : Nat} {ref : ByteArray} {all : Value} {desc typ fmt : ByteArray} (h : Sch w b ref all desc typ fmt) : w.cell? ⟨b, 1, none⟩ = some all := by rw [cell_of_row w b 1 _ _ _ h]; rfl
theorem Sch.c2 {w : World} {b : Nat} {ref : ByteArray} {all : Value} {desc typ fmt : ByteArray} (h : Sch w b ref all desc typ fmt) : w.cell? ⟨b, 2, none⟩ = some (.string desc) := by rw [cell_of_row w b 2 _ _ _ h]; rfl
theorem Sch.c3 {w : World} {b : Nat} {ref : ByteArray} {all : Value} {desc typ fmt : ByteArray} (h : Sch w b ref all desc typ fmt) : w.cell? ⟨b, 3, none⟩ = some (.string typ) := by rw [cell_of_row w b 3 _ _ _ h]; rfl
theorem Sch.c4 {w : World} {b : Nat} {ref : ByteArray} {all : Value} {desc typ fmt : ByteArray} (h : Sch w b ref all desc typ fmt) : w.cell? ⟨b, 4, none⟩ = some (.string fmt) := by rw [cell_of_row w b 4 _ _ _ h]; rfl
theorem Sch.c5 {w : World} {b : Nat} {ref : ByteArray} {all : Value} {desc typ fmt : ByteArray} (h : Sch w b ref all desc typ fmt) : w.cell? ⟨b, 5, none⟩ = some (.pointer none) := by rw [cell_of_row w b 5 _ _ _ h]; rfl
theorem Sch.c6 {w : World} {b : Nat} {ref : ByteArray} {all : Value} {desc typ fmt : ByteArray} (h : Sch w b ref all desc typ fmt) : w.cell? ⟨b, 6, none⟩ = some (.map none) := by rw [cell_of_row w b 6 _ _ _ h]; rfl
theorem Sch.c7 {w : World} {b : Nat} {ref : ByteArray} {all : Value} {desc typ fmt : ByteArray} (h : Sch w b ref all desc typ fmt) : w.cell? ⟨b, 7, none⟩ = some (.pointer none) := by rw [cell_of_row w b 7 _ _ _ h]; rfl
theorem Sch.c8 {w : World} {b : Nat} {ref : ByteArray} {all : Value} {desc typ fmt : ByteArray} (h : Sch w b ref all desc typ fmt) : w.cell? ⟨b, 8, none⟩ = some (.slice none 0 0) := by rw [cell_of_row w b 8 _ _ _ h]; rfl
theorem Sch.f2 {w : World} {b : Nat} {ref : ByteArray} {all : Value} {desc typ fmt : ByteArray} (h : Sch w b ref all desc typ fmt) : w.frozen? ⟨b, 2, none⟩ = false := frozen_of_row w b 2 _ _ h

theorem Sch.set {w : World} {b : Nat} {ref : ByteArray} {all : Value} {desc typ fmt : ByteArray} (h : Sch w b ref all desc typ fmt) (d : ByteArray) : Sch (w.setCell ⟨b, 2, none⟩ (.string d)) b ref all d typ fmt := by
  have := heap_setCell_same w b 2 _ _ (.string d) h
  unfold Sch
  rw [this]
  rfl

/-- What a reader of the version sees. -/
def vis (v3 : Bool) (ref desc : ByteArray) : ByteArray := if v3 && !ref.toList.isEmpty then ⟨#[]⟩ else desc

theorem vis_yes {v3 : Bool} {ref desc : ByteArray} (h : (v3 && !ref.toList.isEmpty) = false) : vis v3 ref desc = desc := by unfold vis; rw [h]; rfl
theorem vis_no {v3 : Bool} {ref desc : ByteArray} (h : (v3 && !ref.toList.isEmpty) = true) : vis v3 ref desc = ⟨#[]⟩ := by unfold vis; rw [h]; rfl

set_option maxHeartbeats 400000 in
theorem visible_any (v3 : Bool) (b : Nat) (ref : ByteArray) (all : Value) (desc typ fmt : ByteArray) (w : World) (h : Sch w b ref all desc typ fmt) :
    Calls Trym.prog 6 #[.pointer (some ⟨b, 0, none⟩), .bool v3] w fun e w' => e = .returned (.string (vis v3 ref desc)) ∧ w = w' := by
  have c0 := h.c0
  have c2 := h.c2
  clear h
  cases v3 <;> cases hr : ref.toList.isEmpty
  · rw [vis_yes (by simp)]
    go_enter Trym.func6, Trym.ntmps6
    go_wp2
    go_ret
    exact ⟨rfl, rfl⟩
  · rw [vis_yes (by simp)]
    go_enter Trym.func6, Trym.ntmps6
    go_wp2
    go_ret
    exact ⟨rfl, rfl⟩
  · rw [vis_no (by simp [hr])]
    go_enter Trym.func6, Trym.ntmps6
    go_wp2
    go_ret
    exact ⟨rfl, rfl⟩
  · rw [vis_yes (by simp [hr])]
    go_enter Trym.func6, Trym.ntmps6
    go_wp2
    go_ret
    exact ⟨rfl, rfl⟩

set_option maxHeartbeats 400000 in
theorem models_any (v3 : Bool) (w : World) :
    Calls Trym.prog 7 #[.bool v3] w fun e w' => ∃ m, e = .returned (.pointer (some ⟨m, 0, none⟩)) ∧ w'.cell? ⟨m, 0, none⟩ = some (.bool v3) ∧ Below w.heap.size w w' ∧ w.heap.size ≤ m := by
  obtain ⟨hmm, q24, q26, q25, q23, q23'⟩ := facts
  go_enter Trym.func7, Trym.ntmps7
  go_wp2
  go_ret
  exact ⟨w.heap.size + 1, rfl, by simp, ((Below.refl _ _).alloc (Nat.le_refl _) _).alloc (by simp) _, by omega⟩

set_option maxHeartbeats 400000 in
theorem untouched_any (b : Nat) (ref : ByteArray) (desc typ fmt : ByteArray) (w : World) (h : Sch w b ref (.slice none 0 0) desc typ fmt) :
    Calls Trym.prog 10 #[.pointer (some ⟨b, 0, none⟩), .string ref, .string typ, .string fmt] w fun e w' => e = .returned (.bool true) ∧ w = w' := by
  obtain ⟨hmm, q24, q26, q25, q23, q23'⟩ := facts
  have c0 := h.c0
  have c1 := h.c1
  have c3 := h.c3
  have c4 := h.c4
  have c5 := h.c5
  have c6 := h.c6
  have c7 := h.c7
  have c8 := h.c8
  clear h
  go_enter Trym.func10, Trym.ntmps10
  go_wp2
  go_ret
  exact ⟨rfl, rfl⟩

set_option maxHeartbeats 400000 in
theorem unwrapped_flat (b : Nat) (ref : ByteArray) (desc typ fmt : ByteArray) (w : World) (h : Sch w b ref (.slice none 0 0) desc typ fmt) :
    Calls Trym.prog 9 #[.pointer (some ⟨b, 0, none⟩)] w fun e w' => e = .returned (.pointer (some ⟨b, 0, none⟩)) ∧ w = w' := by
  have c0 := h.c0
  have c1 := h.c1
  clear h
  cases hr : ref.toList.isEmpty
  all_goals
    go_enter Trym.func9, Trym.ntmps9
    go_wp2
    go_ret
    exact ⟨rfl, rfl⟩

set_option maxHeartbeats 400000 in
theorem unwrapped_wrap (b c s : Nat) (desc typ fmt : ByteArray) (w : World) (h : Sch w b ⟨#[]⟩ (.slice (some ⟨c, 0, none⟩) 1 1) desc typ fmt) (hc : w.cell? ⟨c, 0, none⟩ = some (.pointer (some ⟨s, 0, none⟩))) :
    Calls Trym.prog 9 #[.pointer (some ⟨b, 0, none⟩)] w fun e w' => e = .returned (.pointer (some ⟨s, 0, none⟩)) ∧ w = w' := by
  have c0 := h.c0
  have c1 := h.c1
  clear h
  go_enter Trym.func9, Trym.ntmps9
  go_wp2
  go_ret
  exact ⟨rfl, rfl⟩

end Go.Proofs.Qxb6603156aMods
