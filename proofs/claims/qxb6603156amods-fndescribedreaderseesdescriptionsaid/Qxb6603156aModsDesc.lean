import Derived.Test.Qxb6603156aModsParts
namespace Go.Proofs.Qxb6603156aMods
open Go.RowKit
set_option linter.unusedVariables false

/-- No description: the schema itself. -/
theorem described_none (m b : Nat) (d : ByteArray) (w : World) (hd : d.toList.isEmpty = true) :
    Calls Trym.prog 8 #[.pointer (some ⟨m, 0, none⟩), .pointer (some ⟨b, 0, none⟩), .string d] w fun e w' => e = .returned (.pointer (some ⟨b, 0, none⟩)) ∧ w = w' := by
  go_enter Trym.func8, Trym.ntmps8
  go_wp2
  go_ret
  exact ⟨rfl, rfl⟩

/-- A reference under version 3: a wrapper, new. -/
theorem described_wrap (m b : Nat) (ref : ByteArray) (all : Value) (desc typ fmt d : ByteArray) (w : World) (h : Sch w b ref all desc typ fmt) (hm : w.cell? ⟨m, 0, none⟩ = some (.bool true))
    (hr : ref.toList.isEmpty = false) (hd : d.toList.isEmpty = false) :
    Calls Trym.prog 8 #[.pointer (some ⟨m, 0, none⟩), .pointer (some ⟨b, 0, none⟩), .string d] w fun e w' =>
      ∃ b' c, e = .returned (.pointer (some ⟨b', 0, none⟩)) ∧ Sch w' b' ⟨#[]⟩ (.slice (some ⟨c, 0, none⟩) 1 1) d ⟨#[]⟩ ⟨#[]⟩ ∧ w'.cell? ⟨c, 0, none⟩ = some (.pointer (some ⟨b, 0, none⟩)) ∧ Below w.heap.size w w' ∧ w.heap.size ≤ b' ∧ c ≠ b' := by
  have c0 := h.c0
  clear h
  go_enter Trym.func8, Trym.ntmps8
  go_wp2
  go_ret
  refine ⟨w.heap.size + 1, w.heap.size, rfl, ?_, by simp, ((Below.refl _ _).alloc (Nat.le_refl _) _).alloc (by simp) _, by omega, by omega⟩
  have := heap_alloc_new (w.alloc (.cells #[.pointer (some ⟨b, 0, none⟩)] 23)) (.cells #[.string ⟨#[]⟩, .slice (some ⟨w.heap.size, 0, none⟩) 1 1, .string d, .string ⟨#[]⟩, .string ⟨#[]⟩, .pointer none, .map none, .pointer none, .slice none 0 0] 28)
  rw [World.size_alloc] at this
  exact this

/-- Else: the description is written into the schema. -/
theorem described_set (v3 : Bool) (m b : Nat) (ref : ByteArray) (all : Value) (desc typ fmt d : ByteArray) (w : World) (h : Sch w b ref all desc typ fmt) (hm : w.cell? ⟨m, 0, none⟩ = some (.bool v3))
    (hv : (v3 && !ref.toList.isEmpty) = false) (hd : d.toList.isEmpty = false) :
    Calls Trym.prog 8 #[.pointer (some ⟨m, 0, none⟩), .pointer (some ⟨b, 0, none⟩), .string d] w fun e w' =>
      e = .returned (.pointer (some ⟨b, 0, none⟩)) ∧ w.setCell ⟨b, 2, none⟩ (.string d) = w' := by
  have c0 := h.c0
  have c2 := h.c2
  have f2 := h.f2
  clear h
  cases v3 with
  | false =>
    cases hr : ref.toList.isEmpty
    all_goals
      go_enter Trym.func8, Trym.ntmps8
      go_wp2
      go_ret
      exact ⟨rfl, rfl⟩
  | true =>
    have hr : ref.toList.isEmpty = true := by simpa using hv
    clear hv
    go_enter Trym.func8, Trym.ntmps8
    go_wp2
    go_ret
    exact ⟨rfl, rfl⟩

end Go.Proofs.Qxb6603156aMods
