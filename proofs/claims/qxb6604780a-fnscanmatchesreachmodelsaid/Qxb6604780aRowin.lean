/-
  Rows that came in; copies of them.
-/
import Derived.Test.Qxb6604780aSmall
namespace Go.Proofs.Qxb6604780a
set_option linter.unusedSimpArgs false
set_option linter.unusedVariables false
open Go.RowKit

/-- A slice that came in: its elements. -/
structure RowIn (f : Int → Value) (w : World) (a : Option Addr) (n : Nat) (xs : List Int) : Prop where
  len : xs.length = n
  nil : a = none → n = 0
  reads : Reads f w a xs
theorem rowIn_of (k : IntKind) (w : World) (a : Option Addr) (len cap : Nat) (zs : List Int)
    (h : (a = none ∧ len = 0 ∧ cap = 0 ∧ zs = []) ∨ ∃ x, a = some x ∧ len ≤ cap ∧ cap ≤ maxLen ∧ zs.length = cap ∧ (∀ i, i < zs.length → w.cell? (x.add i) = some (.int k (zs.getD i 0))) ∧ ∀ n ∈ zs, (Lit.int k n).wf = true) : RowIn (Value.int k) w a len (zs.take len) := by
  rcases h with ⟨rfl, rfl, rfl, rfl⟩ | ⟨x, rfl, hlc, hcm, hz, hc, _⟩
  · exact ⟨rfl, fun _ => rfl, fun i hi => by simp at hi⟩
  · refine ⟨by rw [List.length_take]; omega, fun h => (by cases h), fun i hi => ?_⟩
    rw [List.length_take] at hi
    obtain ⟨b, o, sp⟩ := x
    have hspot : sp = none := by simpa [Addr.add] using World.cell?_spot (hc 0 (by omega))
    subst hspot
    have h0 := hc i (by omega)
    rw [List.getD_eq_getElem?_getD, List.getElem?_eq_getElem (by omega), Option.getD_some] at h0
    refine ⟨b, o, rfl, ?_⟩
    rw [List.getElem_take]
    by_cases e : i = 0
    · subst e
      simpa [Addr.add] using h0
    · simpa [Addr.add, e] using h0
theorem RowIn.keep {f : Int → Value} {w w' : World} {a : Option Addr} {n : Nat} {xs : List Int} (h : RowIn f w a n xs) (hb : Below w.heap.size w w') : RowIn f w' a n xs := ⟨h.len, h.nil, h.reads.keep hb⟩

/-- A copy. -/
def CopyGot (f : Int → Value) (w w' : World) (e : Ending) (a : Option Addr) (n : Nat) (xs : List Int) : Prop :=
  ∃ a', e = .returned (.slice a' n n) ∧ (a' = none ↔ a = none) ∧ RowIn f w' a' n xs ∧ Below w.heap.size w w'
theorem copyInts_any (a : Option Addr) (cap n : Nat) (xs : List Int) (w : World) (hl : n ≤ 1048576) (h : RowIn (Value.int .i64) w a n xs) : Calls Try.prog 10 #[.slice a n cap] w fun e w' => CopyGot (Value.int .i64) w w' e a n xs := by
  cases a with
  | none =>
    have h0 := h.nil rfl
    subst h0
    refine (copyInts_none 0 cap w).mono ?_
    rintro e w' ⟨rfl, rfl⟩
    exact ⟨none, rfl, Iff.rfl, h, Below.refl _ _⟩
  | some p =>
    refine (copyInts_some p cap n xs w hl h.len h.reads).mono ?_
    rintro e w' ⟨rfl, ho, hb, _⟩
    exact ⟨_, rfl, ⟨fun h => (by cases h), fun h => (by cases h)⟩, ⟨h.len, fun h => (by cases h), ho.reads⟩, hb⟩
theorem copyU8_any (a : Option Addr) (cap n : Nat) (xs : List Int) (w : World) (hl : n ≤ 1048576) (h : RowIn (Value.int .u8) w a n xs) : Calls Try.prog 11 #[.slice a n cap] w fun e w' => CopyGot (Value.int .u8) w w' e a n xs := by
  cases a with
  | none =>
    have h0 := h.nil rfl
    subst h0
    refine (copyU8_none 0 cap w).mono ?_
    rintro e w' ⟨rfl, rfl⟩
    exact ⟨none, rfl, Iff.rfl, h, Below.refl _ _⟩
  | some p =>
    refine (copyU8_some p cap n xs w hl h.len h.reads).mono ?_
    rintro e w' ⟨rfl, ho, hb, _⟩
    exact ⟨_, rfl, ⟨fun h => (by cases h), fun h => (by cases h)⟩, ⟨h.len, fun h => (by cases h), ho.reads⟩, hb⟩

end Go.Proofs.Qxb6604780a
