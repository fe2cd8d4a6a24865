/-
  Closed facts of this program's types, and small laws that the walks want.
-/
import Derived.Test.Qxb6604780aProg
import Derived.Test.Qxb6604780aHeap
import Derived.WalkLawsBesides
import Derived.WalkSpells
import Derived.Deep.QuietTactic
import Derived.BigQuiet
namespace Go.Proofs.Qxb6604780a
set_option linter.unusedSimpArgs false
set_option linter.unusedVariables false
open Go.RowKit

theorem info3 : (Try.prog.info? 3).map (fun i => (i.zero, i.size, i.bytes)) = some (some (.int .i64 0), 1, 8) := by kernel_rfl
theorem info4 : (Try.prog.info? 4).map (fun i => (i.zero, i.size, i.bytes)) = some (some (.bool false), 1, 1) := by kernel_rfl
theorem info5 : (Try.prog.info? 5).map (fun i => (i.zero, i.size, i.bytes)) = some (some (.int .u8 0), 1, 1) := by kernel_rfl
theorem info62 : (Try.prog.info? 62).map (fun i => (i.zero, i.size, i.bytes)) = some (some (.int .u8 0), 1, 1) := by kernel_rfl
theorem info57 : (Try.prog.info? 57).map (fun i => (i.zero, i.size, i.bytes)) = some (some (.agg #[.int .u64 0, .int .i64 0]), 2, 16) := by kernel_rfl

theorem eq_nil_some {t e : TypeId} (h : Try.prog.underlying t = some (.slice e)) (p : Addr) (n c : Nat) (w : World) : (binOp .eql t (.slice (some p) n c) (.slice none 0 0)).run Try.prog w = .ok (.bool false) w := by
  simpa using Lib.run_eql_slice_nil w t e (some p) n c 0 0 h
theorem eq_nil_none {t e : TypeId} (h : Try.prog.underlying t = some (.slice e)) (n c : Nat) (w : World) : (binOp .eql t (.slice none n c) (.slice none 0 0)).run Try.prog w = .ok (.bool true) w := by
  simpa using Lib.run_eql_slice_nil w t e none n c 0 0 h
theorem ne_nil_some {t e : TypeId} (h : Try.prog.underlying t = some (.slice e)) (p : Addr) (n c : Nat) (w : World) : (binOp .neq t (.slice (some p) n c) (.slice none 0 0)).run Try.prog w = .ok (.bool true) w := by
  simpa using run_neq_slice_nil_any w t e (some p) n c 0 0 h
theorem ne_nil_none {t e : TypeId} (h : Try.prog.underlying t = some (.slice e)) (n c : Nat) (w : World) : (binOp .neq t (.slice none n c) (.slice none 0 0)).run Try.prog w = .ok (.bool false) w := by
  simpa using run_neq_slice_nil_any w t e none n c 0 0 h

theorem hide {p : Prop} (h : p) : Hid p := h
theorem unhide {p : Prop} (h : Hid p) : p := h

/-- It returned a bool; if it says true, P. -/
def SaysIf (P : Prop) (e : Ending) : Prop := ∃ b : Bool, e = .returned (.bool b) ∧ (b = true → P)
theorem SaysIf.no {P : Prop} {e : Ending} (h : e = .returned (.bool false)) : SaysIf P e := ⟨false, h, fun h => by cases h⟩
theorem SaysIf.yes {P : Prop} {e : Ending} (h : e = .returned (.bool true)) (hp : P) : SaysIf P e := ⟨true, h, fun _ => hp⟩
def SomeBool (e : Ending) : Prop := ∃ b : Bool, e = .returned (.bool b)
/-- Every number lies below m. -/
def AllIn (xs : List Int) (m : Int) : Prop := ∀ j (h : j < xs.length), 0 ≤ xs[j] ∧ xs[j] < m
/-- The first k lie below m. -/
def AllInK (xs : List Int) (m : Int) (k : Nat) : Prop := ∀ j, j < k → ∀ h : j < xs.length, 0 ≤ xs[j] ∧ xs[j] < m
end Go.Proofs.Qxb6604780a
