/-
  The walk of ZZMakeRing with no names.
-/
import Derived.Test.Qxb6604780aBase
namespace Go.Proofs.Qxb6604780a
set_option linter.unusedSimpArgs false
set_option linter.unusedVariables false
open Go.RowKit

theorem info53 : (Try.prog.info? 53).map (fun i => (i.zero, i.size, i.bytes)) = some (some (.agg #[.string ByteArray.empty, .string ByteArray.empty, .int .i64 0]), 3, 40) := by kernel_rfl
theorem make_nodes (n : Nat) (hl : n ≤ 65536) (w : World) :
    (Instr.makeSlice 50 (.int .i64 (n : Int)) (.int .i64 (n : Int))).run Try.prog w = .ok (.slice (some ⟨w.heap.size, 0, none⟩) n n) (w.alloc (.cells (madeCells #[.string ByteArray.empty, .string ByteArray.empty, .int .i64 0] (n * 3)) 53)) := by
  obtain ⟨i, hi, hz, hs, hb⟩ := info_parts info53
  have hr := run_make (P := Try.prog) w 50 53 i _ Try.underlying50 hi hz .i64 .i64 n n (by omega) (by omega) (by rw [hb]; omega) (by omega)
  simpa [hs, Value.cells] using hr
theorem make_points (n : Nat) (hl : n ≤ 65536) (w : World) :
    (Instr.makeSlice 54 (.int .i64 (n : Int)) (.int .i64 (n : Int))).run Try.prog w = .ok (.slice (some ⟨w.heap.size, 0, none⟩) n n) (w.alloc (.cells (madeCells #[.int .u64 0, .int .i64 0] (n * 2)) 57)) := by
  obtain ⟨i, hi, hz, hs, hb⟩ := info_parts info57
  have hr := run_make (P := Try.prog) w 54 57 i _ Try.underlying54 hi hz .i64 .i64 n n (by omega) (by omega) (by rw [hb]; omega) (by omega)
  simpa [hs, Value.cells] using hr

theorem make_map0 (w : World) : (Instr.makeMap 51 (some (.int .i64 0))).run Try.prog w = .ok (.map (some w.heap.size)) (w.alloc (.map #[] 0)) := by
  simp [Instr.makeMap, run_underlying Try.underlying51, asInt, asIntOf, Result.andThen]

/-- Block b is a row of n points of two cells each; the first k of them are of the nodes xs. -/
structure PtsAt (w : World) (b n k : Nat) (xs : List Int) : Prop where
  row : ∃ c : Array Value, w.heap[b]? = some (.cells c 57 (0, 0)) ∧ c.size = n * 2
  node : ∀ i, i < k → w.cell? ⟨b, i * 2 + 1, none⟩ = some (.int .i64 (xs.getD i 0))
section
variable {w w' : World} {b n k : Nat} {xs : List Int}
theorem cell_of_block {w w' : World} {b : Nat} (h : w'.heap[b]? = w.heap[b]?) (o : Nat) : w'.cell? ⟨b, o, none⟩ = w.cell? ⟨b, o, none⟩ := World.cell?_of_block (w := w) (a := ⟨b, o, none⟩) h
theorem PtsAt.lt (h : PtsAt w b n k xs) : b < w.heap.size := by
  obtain ⟨c, hc, _⟩ := h.row
  exact lt_of_heap hc
theorem PtsAt.of_block (h : PtsAt w b n k xs) (e : w'.heap[b]? = w.heap[b]?) : PtsAt w' b n k xs :=
  ⟨by rw [e]; exact h.row, fun f hf => (cell_of_block e _).trans (h.node f hf)⟩
theorem PtsAt.keep (h : PtsAt w b n k xs) (hb : Below w.heap.size w w') : PtsAt w' b n k xs := h.of_block (hb.block _ h.lt)
theorem PtsAt.there (h : PtsAt w b n k xs) {j : Nat} (hj : j < n * 2) : ∃ v, w.cell? ⟨b, j, none⟩ = some v := by
  obtain ⟨c, hc, hs⟩ := h.row
  refine ⟨c[j], ?_⟩
  simp [World.cell?, hc, hs, hj]
theorem PtsAt.frozen (h : PtsAt w b n k xs) (j : Nat) : w.frozen? ⟨b, j, none⟩ = false := by
  obtain ⟨c, hc, hs⟩ := h.row
  simp [World.frozen?, hc]
theorem PtsAt.made (w : World) (n : Nat) (xs : List Int) (z : Array Value) : PtsAt (w.alloc (.cells (madeCells z (n * 2)) 57)) w.heap.size n 0 xs :=
  ⟨⟨_, heap_alloc_new _ _, size_madeCells _ _⟩, fun f hf => by omega⟩
theorem row_set {w : World} {b n : Nat} {t : TypeId} (h : ∃ c : Array Value, w.heap[b]? = some (.cells c t (0, 0)) ∧ c.size = n) (j : Nat) (v : Value) : ∃ c : Array Value, (w.setCell ⟨b, j, none⟩ v).heap[b]? = some (.cells c t (0, 0)) ∧ c.size = n := by
  obtain ⟨c, hc, hs⟩ := h
  exact ⟨c.setIfInBounds j v, by simp [World.setCell, Array.getElem?_modify, hc], by simpa using hs⟩
theorem cell_set_same {w : World} {b j n : Nat} {t : TypeId} (h : ∃ c : Array Value, w.heap[b]? = some (.cells c t (0, 0)) ∧ c.size = n) (hj : j < n) (v : Value) : (w.setCell ⟨b, j, none⟩ v).cell? ⟨b, j, none⟩ = some v := by
  obtain ⟨c, hc, hs⟩ := h
  have : (w.setCell ⟨b, j, none⟩ v).heap[b]? = some (.cells (c.setIfInBounds j v) t (0, 0)) := by simp [World.setCell, Array.getElem?_modify, hc]
  simp [World.cell?, this, hs, hj]
theorem cell_set_far {w : World} {b j i : Nat} (hj : i ≠ j) (v : Value) : (w.setCell ⟨b, j, none⟩ v).cell? ⟨b, i, none⟩ = w.cell? ⟨b, i, none⟩ := by
  unfold World.cell?
  simp only [World.setCell, Array.getElem?_modify]
  cases h : w.heap[b]? with
  | none => simp
  | some o =>
    cases o <;> simp
    rw [Array.getElem?_setIfInBounds, if_neg (fun e => hj e.symm)]
theorem PtsAt.put (h : PtsAt w b n k xs) (hk : k < n) (hx : k < xs.length) (u : Value) : PtsAt ((w.setCell ⟨b, k * 2, none⟩ u).setCell ⟨b, k * 2 + 1, none⟩ (.int .i64 xs[k])) b n (k + 1) xs := by
  have r1 := row_set h.row (k * 2) u
  refine ⟨row_set r1 _ _, fun i hi => ?_⟩
  by_cases e : i = k
  · subst e
    rw [cell_set_same r1 (by omega), List.getD_eq_getElem?_getD, List.getElem?_eq_getElem hx]
    rfl
  · rw [cell_set_far (by omega), cell_set_far (by omega)]
    exact h.node i (by omega)
end

/-- The ring that ZZMakeRing lays: its block, its points, its picks. -/
structure RingAt (w : World) (R : Nat) (vn vm : Value) (adc : Option Addr) (n0 c0 : Nat) (m : Int) (bp : Nat) (pts : List Int) (ak : Option Addr) (pks : List Int) (pf : Bool) : Prop where
  ring : w.heap[R]? = some (.cells #[vn, vm, .slice adc n0 c0, .int .i64 m, .slice (some ⟨bp, 0, none⟩) pts.length pts.length, .slice ak pks.length pks.length, .bool pf] 59 (0, 0))
  points : PtsAt w bp pts.length pts.length pts
  picks : (ak = none ∧ pks = []) ∨ ∃ bk, ak = some ⟨bk, 0, none⟩ ∧ PtsAt w bk pks.length pks.length pks

/-- What ZZMakeRing hands back. -/
def MadeRing (w w' : World) (e : Ending) (a1 : Option Addr) (n1 c1 : Nat) (m : Int) (pts : List Int) (a4 : Option Addr) (pks : List Int) (pf : Bool) : Prop :=
  ∃ R vn vm bp ak, e = .returned (.pointer (some ⟨R, 0, none⟩)) ∧ w.heap.size ≤ R ∧ (ak = none ↔ a4 = none) ∧ RingAt w' R vn vm a1 n1 c1 m bp pts ak pks pf

set_option maxRecDepth 100000 in
set_option maxHeartbeats 2000000 in
theorem makeRing_any (a1 a3 a4 : Option Addr) (n1 c1 n3 c3 n4 c4 : Nat) (m : Int) (pf : Bool) (pts pks : List Int) (w : World) (hl1 : n1 ≤ 32768) (hl3 : n3 ≤ 32768) (hl4 : n4 ≤ 32768)
    (hn3 : pts.length = n3) (hn4 : pks.length = n4) (hnil : a4 = none → n4 = 0) (hr3 : Reads (Value.int .i64) w a3 pts) (hr4 : Reads (Value.int .i64) w a4 pks) :
    Calls Try.prog 12 #[.slice none 0 0, .slice a1 n1 c1, .int .i64 m, .slice a3 n3 c3, .slice a4 n4 c4, .bool pf] w fun e w' =>
      MadeRing w w' e a1 n1 c1 m pts a4 pks pf ∧ Below w.heap.size w w' := by
  have hmk := make_nodes n1 (by omega)
  have hmm := make_map0
  have hmp := make_points n3 (by omega)
  have hmq := make_points n4 (by omega)
  have H3 := hide hn3
  have H4 := hide hn4
  have HNil := hide hnil
  have R3 := hide hr3
  have R4 := hide hr4
  clear hn3 hn4 hnil hr3 hr4
  go_enter Try.func12, Try.ntmps12
  go_wp2
  go_loopw [15] (fun i wr => i = .int .i64 0 ∧ Below w.heap.size w wr) (fun i _ => 0)
  case atStart => exact ⟨rfl, ((Below.refl _ _).alloc (Nat.le_refl _) _).alloc (by simp) _⟩
  case round =>
    obtain ⟨rfl, hb1⟩ := hrel
    go_wp2
    obtain ⟨w1, rfl⟩ : ∃ w1, w1 = wr := ⟨_, rfl⟩
    have hsz := hb1.size
    go_loopw [17] (fun i wr => ∃ k : Nat, k ≤ n3 ∧ i = .int .i64 k ∧ PtsAt wr w1.heap.size n3 k pts ∧ Below w1.heap.size w1 wr ∧ wr.heap.size = w1.heap.size + 1) (fun i _ => n3 - (intOf i).toNat)
    case atStart => exact ⟨0, Nat.zero_le _, rfl, PtsAt.made _ _ _ _, (Below.refl _ _).alloc (Nat.le_refl _) _, by simp⟩
    case round =>
      obtain ⟨k, hk, rfl, hP, hb2, hs2⟩ := hrel
      have HS2 := hide hs2
      clear hs2
      by_cases hlt : k < n3
      · have hkx : k < pts.length := by have := H3.out; omega
        obtain ⟨b, o, hp, hc⟩ := (R3.out.keep hb1).keep hb2 k hkx
        cases hp
        have hltI : (k : Int) < (n3 : Int) := by omega
        obtain ⟨u0, hu0⟩ := hP.there (j := k * 2) (by omega)
        obtain ⟨u1, hu1⟩ := hP.there (j := k * 2 + 1) (by omega)
        have f0 := hP.frozen (k * 2)
        have f1 := hP.frozen (k * 2 + 1)
        have HP := hide hP
        clear hP
        go_wp2
        go_roundw
        case rel => exact ⟨k + 1, by omega, by go_num, HP.out.put hlt hkx _, (hb2.setCell (by exact Nat.le_refl _) _).setCell (by exact Nat.le_refl _) _, by simpa using HS2.out⟩
        case measure => simp [intOf]; omega
      · obtain rfl : k = n3 := by omega
        have hP3 : Hid (PtsAt wr w1.heap.size k k pts) := hP
        clear hP
        obtain ⟨w2, rfl⟩ : ∃ w2, w2 = wr := ⟨_, rfl⟩
        have hb12 : Below w.heap.size w w2 := hb1.trans (hb2.mono hsz)
        cases h4 : a4 with
        | none =>
          subst h4
          have hcmp : ∀ W, (binOp .neq 22 (.slice none n4 c4) (.slice none 0 0)).run Try.prog W = .ok (.bool false) W := fun W => ne_nil_none Try.underlying22 n4 c4 W
          have hp0 : Hid (pks = []) := List.eq_nil_of_length_eq_zero (by rw [H4.out]; exact HNil.out rfl)
          go_wp2
          go_ret
          have e3 := H3.out
          have hp0 := hp0.out
          subst hp0
          refine ⟨⟨w2.heap.size, .slice (some ⟨w.heap.size, 0, none⟩) n1 n1, .map (some (w.heap.size + 1)), w1.heap.size, none, rfl, ?_, by simp, ⟨?_, ?_, .inl ⟨rfl, rfl⟩⟩⟩, ?_⟩
          · exact hb12.size
          · rw [e3]; exact heap_alloc_new _ _
          · rw [e3]; exact hP3.out.of_block (Below.heap_alloc _ _ _ hP3.out.lt)
          · exact hb12.alloc hb12.size _
        | some p =>
          subst h4
          have hcmp : ∀ W, (binOp .neq 22 (.slice (some p) n4 c4) (.slice none 0 0)).run Try.prog W = .ok (.bool true) W := fun W => ne_nil_some Try.underlying22 p n4 c4 W
          go_wp2
          go_loopw [19] (fun i wr => ∃ j : Nat, j ≤ n4 ∧ i = .int .i64 j ∧ PtsAt wr w2.heap.size n4 j pks ∧ Below w2.heap.size w2 wr ∧ wr.heap.size = w2.heap.size + 1) (fun i _ => n4 - (intOf i).toNat)
          case atStart => exact ⟨0, Nat.zero_le _, rfl, PtsAt.made _ _ _ _, (Below.refl _ _).alloc (Nat.le_refl _) _, by simp⟩
          case round =>
            obtain ⟨j, hj, rfl, hQ, hb3, hs3⟩ := hrel
            have HS3 := hide hs3
            clear hs3
            by_cases hlt : j < n4
            · have hkx : j < pks.length := by have := H4.out; omega
              obtain ⟨b, o, hp, hc⟩ := (R4.out.keep hb12).keep hb3 j hkx
              cases hp
              have hltI : (j : Int) < (n4 : Int) := by omega
              obtain ⟨u0, hu0⟩ := hQ.there (j := j * 2) (by omega)
              obtain ⟨u1, hu1⟩ := hQ.there (j := j * 2 + 1) (by omega)
              have f0 := hQ.frozen (j * 2)
              have f1 := hQ.frozen (j * 2 + 1)
              have HQ := hide hQ
              clear hQ hcmp
              go_wp2
              go_roundw
              case rel => exact ⟨j + 1, by omega, by go_num, HQ.out.put hlt hkx _, (hb3.setCell (by exact Nat.le_refl _) _).setCell (by exact Nat.le_refl _) _, by simpa using HS3.out⟩
              case measure => simp [intOf]; omega
            · obtain rfl : j = n4 := by omega
              have hQ3 : Hid (PtsAt wr w2.heap.size j j pks) := hQ
              clear hQ
              have hb13 : Below w.heap.size w wr := hb12.trans (hb3.mono hb12.size)
              go_wp2
              go_ret
              have e3 := H3.out
              have e4 := H4.out
              refine ⟨⟨wr.heap.size, .slice (some ⟨w.heap.size, 0, none⟩) n1 n1, .map (some (w.heap.size + 1)), w1.heap.size, some ⟨w2.heap.size, 0, none⟩, rfl, ?_, by simp, ⟨?_, ?_, .inr ⟨w2.heap.size, rfl, ?_⟩⟩⟩, ?_⟩
              · exact hb13.size
              · rw [e3, e4]; exact heap_alloc_new _ _
              · rw [e3]; exact (hP3.out.keep hb3).of_block (Below.heap_alloc _ _ _ (hP3.out.keep hb3).lt)
              · rw [e4]; exact hQ3.out.of_block (Below.heap_alloc _ _ _ hQ3.out.lt)
              · exact hb13.alloc hb13.size _
end Go.Proofs.Qxb6604780a
