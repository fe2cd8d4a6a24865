/-
  Closed facts of this program's types, and small laws that the walks want.
-/
import Derived.Test.Qxb6604777aProg
import Derived.Test.Qxb6604777aHeap
import Derived.WalkLawsBesides
import Derived.WalkSpells
namespace Go.Proofs.Qxb6604777a
set_option linter.unusedSimpArgs false
set_option linter.unusedVariables false
open Go.RowKit

theorem info3 : (Try.prog.info? 3).map (fun i => (i.zero, i.size, i.bytes)) = some (some (.int .i64 0), 1, 8) := by kernel_rfl
theorem info4 : (Try.prog.info? 4).map (fun i => (i.zero, i.size, i.bytes)) = some (some (.bool false), 1, 1) := by kernel_rfl
theorem info9 : (Try.prog.info? 9).map (fun i => (i.zero, i.size, i.bytes)) = some (some (.string ByteArray.empty), 1, 16) := by kernel_rfl
theorem info49 : (Try.prog.info? 49).map (fun i => (i.zero, i.size, i.bytes)) = some (some (.string ByteArray.empty), 1, 16) := by kernel_rfl

theorem eq_nil_some {t e : TypeId} (h : Try.prog.underlying t = some (.slice e)) (p : Addr) (n c : Nat) (w : World) : (binOp .eql t (.slice (some p) n c) (.slice none 0 0)).run Try.prog w = .ok (.bool false) w := by
  simpa using Lib.run_eql_slice_nil w t e (some p) n c 0 0 h
theorem eq_nil_none {t e : TypeId} (h : Try.prog.underlying t = some (.slice e)) (n c : Nat) (w : World) : (binOp .eql t (.slice none n c) (.slice none 0 0)).run Try.prog w = .ok (.bool true) w := by
  simpa using Lib.run_eql_slice_nil w t e none n c 0 0 h
theorem ne_nil_some {t e : TypeId} (h : Try.prog.underlying t = some (.slice e)) (p : Addr) (n c : Nat) (w : World) : (binOp .neq t (.slice (some p) n c) (.slice none 0 0)).run Try.prog w = .ok (.bool true) w := by
  simpa using run_neq_slice_nil_any w t e (some p) n c 0 0 h
theorem ne_nil_none {t e : TypeId} (h : Try.prog.underlying t = some (.slice e)) (n c : Nat) (w : World) : (binOp .neq t (.slice none n c) (.slice none 0 0)).run Try.prog w = .ok (.bool false) w := by
  simpa using run_neq_slice_nil_any w t e none n c 0 0 h

theorem ret_bool {a b : Bool} (h : a = b) : Ending.returned (.bool a) = .returned (.bool b) := by rw [h]
theorem ret_int {k : IntKind} {a b : Int} (h : a = b) : Ending.returned (.int k a) = .returned (.int k b) := by rw [h]

/- A tally that a function hands back out of its result cell. -/
set_option maxRecDepth 100000 in
theorem results_tally {fn : Func} {p : Tmp} (h : fn.results = #[.cell p 31]) (tmps : Array Value) (B : Nat) (ht : tmps.getD p undef = .pointer (some ⟨B, 0, none⟩)) (w : World) (v0 v1 v2 v3 v4 v5 v6 v7 v8 v9 : Value)
    (hB : w.heap[B]? = some (.cells #[v0, v1, v2, v3, v4, v5, v6, v7, v8, v9] 31 (0, 0))) : (results fn tmps).run Try.prog w = .ok (.agg #[v0, v1, v2, v3, v4, v5, v6, v7, v8, v9]) w := by
  have h0 : w.cell? ⟨B, 0, none⟩ = some v0 := by simp [World.cell?, hB]
  have h1 : w.cell? ⟨B, 1, none⟩ = some v1 := by simp [World.cell?, hB]
  have h2 : w.cell? ⟨B, 2, none⟩ = some v2 := by simp [World.cell?, hB]
  have h3 : w.cell? ⟨B, 3, none⟩ = some v3 := by simp [World.cell?, hB]
  have h4 : w.cell? ⟨B, 4, none⟩ = some v4 := by simp [World.cell?, hB]
  have h5 : w.cell? ⟨B, 5, none⟩ = some v5 := by simp [World.cell?, hB]
  have h6 : w.cell? ⟨B, 6, none⟩ = some v6 := by simp [World.cell?, hB]
  have h7 : w.cell? ⟨B, 7, none⟩ = some v7 := by simp [World.cell?, hB]
  have h8 : w.cell? ⟨B, 8, none⟩ = some v8 := by simp [World.cell?, hB]
  have h9 : w.cell? ⟨B, 9, none⟩ = some v9 := by simp [World.cell?, hB]
  rw [Array.getD_eq_getD_getElem?] at ht
  simp [results, h, ht, go_sem, h0, h1, h2, h3, h4, h5, h6, h7, h8, h9]
theorem finish_tally {fn : Func} {p : Tmp} (h : fn.results = #[.cell p 31]) {a : Act} {w : World} {B : Nat} {z0 z1 z2 z3 z4 z5 z6 z7 z8 z9 v0 v1 v2 v3 v4 v5 v6 v7 v8 v9 : Value} {R : Ending → World → Prop}
    (ht : a.tmps.getD p undef = .pointer (some ⟨B, 0, none⟩)) (hd : a.defers = []) (hB : w.heap[B]? = some (.cells #[z0, z1, z2, z3, z4, z5, z6, z7, z8, z9] 31 (0, 0)))
    (hR : ∀ W : World, W.heap[B]? = some (.cells #[v0, v1, v2, v3, v4, v5, v6, v7, v8, v9] 31 (0, 0)) → (∀ k, k ≠ B → W.heap[k]? = w.heap[k]?) → W.heap.size = w.heap.size → (∀ A (x : World), A ≤ B → Below A x w → Below A x W) →
      R (.returned (.agg #[v0, v1, v2, v3, v4, v5, v6, v7, v8, v9])) W) :
    bodyPost Try.prog fn R .ret a ((((((((((w.setCell ⟨B, 0, none⟩ v0).setCell ⟨B, 1, none⟩ v1).setCell ⟨B, 2, none⟩ v2).setCell ⟨B, 3, none⟩ v3).setCell ⟨B, 4, none⟩ v4).setCell ⟨B, 5, none⟩ v5).setCell ⟨B, 6, none⟩ v6).setCell ⟨B, 7, none⟩ v7).setCell ⟨B, 8, none⟩ v8).setCell ⟨B, 9, none⟩ v9) := by
  have hW := putRow_block B 31 [v0, v1, v2, v3, v4, v5, v6, v7, v8, v9] 0 w [] [z0, z1, z2, z3, z4, z5, z6, z7, z8, z9] rfl rfl hB
  have ho : ∀ k, k ≠ B → (putRow w B 0 [v0, v1, v2, v3, v4, v5, v6, v7, v8, v9]).heap[k]? = w.heap[k]? := fun k hk => putRow_other B k hk _ 0 w
  have hs := putRow_size B [v0, v1, v2, v3, v4, v5, v6, v7, v8, v9] 0 w
  have hb : ∀ A (x : World), A ≤ B → Below A x w → Below A x (putRow w B 0 [v0, v1, v2, v3, v4, v5, v6, v7, v8, v9]) := fun A x hA hx => putRow_below B hA _ 0 w x hx
  exact bodyPost_ret (results_tally h _ B ht _ v0 v1 v2 v3 v4 v5 v6 v7 v8 v9 hW) hd (hR _ hW ho hs hb)

theorem hide {p : Prop} (h : p) : Hid p := h
theorem unhide {p : Prop} (h : Hid p) : p := h
end Go.Proofs.Qxb6604777a
