/-
  The ring as scan reads it; flags that are cleared.
-/
import Derived.Test.Qxb6604780aLive
import Derived.Test.Qxb6604780aRing
import Derived.Lib.SliceRun
import Derived.Deep.DeepCutAuto
import Derived.Deep.CutBlock
namespace Go.Proofs.Qxb6604780a
set_option linter.unusedSimpArgs false
set_option linter.unusedVariables false
open Go.RowKit

theorem RingAt.keep {w w' : World} {R : Nat} {vn vm : Value} {adc : Option Addr} {n0 c0 : Nat} {m : Int} {bp : Nat} {pts : List Int} {ak : Option Addr} {pks : List Int} {pf : Bool} (h : RingAt w R vn vm adc n0 c0 m bp pts ak pks pf) (hb : Below w.heap.size w w') : RingAt w' R vn vm adc n0 c0 m bp pts ak pks pf where
  ring := (hb.block _ (lt_of_heap h.ring)).trans h.ring
  points := h.points.keep hb
  picks := by
    rcases h.picks with h | ⟨bk, e, h⟩
    · exact .inl h
    · exact .inr ⟨bk, e, h.keep hb⟩
theorem RingAt.cells {w : World} {R : Nat} {vn vm : Value} {adc : Option Addr} {n0 c0 : Nat} {m : Int} {bp : Nat} {pts : List Int} {ak : Option Addr} {pks : List Int} {pf : Bool} (h : RingAt w R vn vm adc n0 c0 m bp pts ak pks pf) :
    w.cell? ⟨R, 2, none⟩ = some (.slice adc n0 c0) ∧ w.cell? ⟨R, 3, none⟩ = some (.int .i64 m) ∧ w.cell? ⟨R, 4, none⟩ = some (.slice (some ⟨bp, 0, none⟩) pts.length pts.length) ∧ w.cell? ⟨R, 5, none⟩ = some (.slice ak pks.length pks.length) ∧ w.cell? ⟨R, 6, none⟩ = some (.bool pf) := by
  have := h.ring
  exact ⟨by simp [World.cell?, this], by simp [World.cell?, this], by simp [World.cell?, this], by simp [World.cell?, this], by simp [World.cell?, this]⟩

/-- What is fixed while list runs. -/
structure Ground (w0 : World) (K : Blks) (R : Nat) (vn vm : Value) (bd : Nat) (dc : List Int) (bp : Nat) (pts : List Int) (ak : Option Addr) (pks : List Int) (pf : Bool) : Prop where
  base : K.B = w0.heap.size
  ring : RingAt w0 R vn vm (some ⟨bd, 0, none⟩) K.N K.N (K.M : Int) bp pts ak pks pf
  dcs : Reads (Value.int .i64) w0 (some ⟨bd, 0, none⟩) dc
  dl : dc.length = K.N
  dcIn : AllIn dc K.M
  ptsIn : AllIn pts K.N
  pksIn : AllIn pks K.N
  nN : K.N ≤ 32768
  nP : pts.length ≤ 32768
  nK : pks.length ≤ 32768
  nM : K.M ≤ 65536
  m0 : 0 < K.M

theorem AllIn.nat {xs : List Int} {m : Nat} (h : AllIn xs (m : Int)) {j : Nat} (hj : j < xs.length) : ∃ x : Nat, xs.getD j 0 = (x : Int) ∧ x < m := by
  obtain ⟨h0, h1⟩ := h j hj
  refine ⟨xs[j].toNat, ?_, by omega⟩
  rw [List.getD_eq_getElem?_getD, List.getElem?_eq_getElem hj]
  simp; omega
theorem Reads.nat {w : World} {b : Nat} {xs : List Int} (h : Reads (Value.int .i64) w (some ⟨b, 0, none⟩) xs) {i : Nat} (hi : i < xs.length) : w.cell? ⟨b, i, none⟩ = some (.int .i64 (xs.getD i 0)) := by
  have := h.at rfl hi
  rw [Nat.zero_add] at this
  rw [this, List.getD_eq_getElem?_getD, List.getElem?_eq_getElem hi]
  rfl
theorem rot_at (xs : List Int) (k i : Nat) (hk : k < xs.length) (hi : i < xs.length) : (rot xs k).drop i = xs.getD ((k + i) % xs.length) 0 :: (rot xs k).drop (i + 1) := by
  rw [rot_drop xs k i hk hi, List.getD_eq_getElem?_getD, List.getElem?_eq_getElem (Nat.mod_lt _ (by omega))]
  rfl

/-- n flags from o on cleared. -/
def clearN (T : List Bool) (o : Nat) : Nat → List Bool
  | 0 => T
  | n + 1 => clearN (T.set o false) (o + 1) n
theorem clearN_get : ∀ (n : Nat) (T : List Bool) (o j : Nat), (clearN T o n)[j]? = if o ≤ j ∧ j < o + n ∧ j < T.length then some false else T[j]?
  | 0, T, o, j => by rw [clearN, if_neg (by omega)]
  | n + 1, T, o, j => by
    rw [clearN, clearN_get n, List.length_set, List.getElem?_set]
    by_cases h : o = j
    · subst h
      rw [if_neg (by omega)]
      by_cases h2 : o < T.length
      · rw [if_pos rfl, if_pos h2, if_pos (by omega)]
      · rw [if_pos rfl, if_neg h2, if_neg (by omega), List.getElem?_eq_none (by omega)]
    · rw [if_neg h]
      by_cases h2 : o + 1 ≤ j ∧ j < o + 1 + n ∧ j < T.length
      · rw [if_pos h2, if_pos (by omega)]
      · rw [if_neg h2, if_neg (by omega)]
theorem clearN_all (T : List Bool) : clearN T 0 T.length = List.replicate T.length false := by
  apply List.ext_getElem?
  intro j
  rw [clearN_get, List.getElem?_replicate]
  by_cases h : j < T.length
  · rw [if_pos (by omega), if_pos h]
  · rw [if_neg (by omega), if_neg h, List.getElem?_eq_none (by omega)]
theorem run_clear_flags (w : World) (b n : Nat) (hn : 0 < n) {T : List Bool} (h : Own Value.bool 4 w b n T) (ty : TypeId) : (Builtin.clear_ #[30] ty #[.slice (some ⟨b, 0, none⟩) n n]).run Try.prog w = .ok (.tuple #[]) (w.setCells b 0 (List.replicate n (.bool false))) :=
  Lib.run_clear_slice w 30 4 ty (.bool false) Try.underlying30 (fun w => Try.zeroValue4 w) rfl rfl b 0 n n hn
    (fun j hj => by
      obtain ⟨u, hu⟩ := h.there (i := j) hj
      rw [Nat.zero_add, hu]
      rfl)
    (fun j hj => by rw [Nat.zero_add]; exact h.frozen j)
end Go.Proofs.Qxb6604780a
