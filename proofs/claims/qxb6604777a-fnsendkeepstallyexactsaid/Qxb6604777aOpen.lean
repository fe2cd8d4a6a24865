/-
  The arguments of the laws, opened.
-/
import Derived.Test.Qxb6604777aBase
import Derived.Test.Qxb6604777aRows
import Derived.ProofKit
import Derived.OpenShut
import Derived.ShutString
import Derived.ChangeOld
import Derived.Below
import Derived.SliceStrings
import Derived.Deep.Grids
namespace Go.Proofs.Qxb6604777a
open Go.ChangeShapes Go.WideShapes Go.ChangeAt Go.RowKit
open Go.ChangeMaps (open_string shut_string)
set_option linter.unusedSimpArgs false
set_option linter.unusedVariables false

theorem own : ownKnob Try.prog.godebug = none := by kernel_rfl
theorem laidOut : laidOutB Try.prog = true := by kernel_rfl

/-- A slice that came in: its elements. -/
structure RowIn {α : Type} (fn : α → Value) (w : World) (a : Option Addr) (n : Nat) (xs : List α) : Prop where
  len : xs.length = n
  nil : a = none → n = 0
  reads : Reads fn w a xs

theorem rowIn_nil {α : Type} (fn : α → Value) (w : World) : RowIn fn w none 0 [] := ⟨rfl, fun _ => rfl, fun i h => by simp at h⟩
theorem rowIn_some {α : Type} (fn : α → Value) (w : World) (a : Addr) (n : Nat) (xs : List α) (hl : xs.length = n) (h : ∀ i (hi : i < xs.length), w.cell? (a.add i) = some (fn xs[i])) : RowIn fn w (some a) n xs := by
  refine ⟨hl, (fun h => by cases h), fun i hi => ?_⟩
  obtain ⟨b, o, sp⟩ := a
  have hspot : sp = none := by simpa [Addr.add] using World.cell?_spot (h 0 (by omega))
  subst hspot
  have h0 := h i hi
  refine ⟨b, o, rfl, ?_⟩
  by_cases e : i = 0
  · subst e
    simpa [Addr.add] using h0
  · simpa [Addr.add, e] using h0

section
variable {H : Type} {enc : TypeId × Value → H} {W : World} {base : Nat} {held : Bool} {d : DataW H} {ps : List MemPlace} {a : Option Addr} {n c : Nat}
theorem rowIn_bools (h : DataW.Trod enc Try.prog W base (fun _ => true) held 22 (.slice a n c) d ps) : ∃ xs, RowIn Value.bool W a n xs := by
  obtain ⟨fuel, hf⟩ := h
  rcases Go.Deep.open_bools Try.underlying22 Try.underlying4 (by kernel_rfl) hf with ⟨hcs, _⟩ | ⟨x, l, cp, B, hcs, _, hl, hm, _, hcell⟩
  · simp [Value.cells] at hcs
    obtain ⟨rfl, rfl, rfl⟩ := hcs
    exact ⟨[], rowIn_nil _ _⟩
  · simp [Value.cells] at hcs
    obtain ⟨rfl, rfl, rfl⟩ := hcs
    refine ⟨(List.range n).map B, rowIn_some _ _ _ _ _ (by simp) fun i hi => ?_⟩
    rw [List.length_map, List.length_range] at hi
    rw [List.getElem_map, List.getElem_range]
    exact hcell i (by omega)
theorem rowIn_strings (h : DataW.Trod enc Try.prog W base (fun _ => true) held 23 (.slice a n c) d ps) : ∃ xs, RowIn Value.string W a n xs := by
  obtain ⟨fuel, hf⟩ := h
  rcases open_strings Try.underlying23 Try.underlying9 (by kernel_rfl) hf with ⟨hcs, _⟩ | ⟨x, l, cp, ss, hcs, _, hl, hm, hlen, _, hcell, _⟩
  · simp [Value.cells] at hcs
    obtain ⟨rfl, rfl, rfl⟩ := hcs
    exact ⟨[], rowIn_nil _ _⟩
  · simp [Value.cells] at hcs
    obtain ⟨rfl, rfl, rfl⟩ := hcs
    simp only [if_true] at hlen
    refine ⟨ss.take n, rowIn_some _ _ _ _ _ (by rw [List.length_take]; omega) fun i hi => ?_⟩
    rw [List.length_take] at hi
    rw [List.getElem_take]
    have := hcell i (by omega)
    rw [List.getD_eq_getElem?_getD, List.getElem?_eq_getElem (by omega), Option.getD_some] at this
    exact this
end

end Go.Proofs.Qxb6604777a
