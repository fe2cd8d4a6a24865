/-
  The walk of zzMake: a tally behind a pointer, made out of the plain fields.
-/
import Derived.Test.Qxb6604777aClones
import Derived.Test.Qxb6604777aPlain
import Derived.Deep.RegionHeld3
namespace Go.Proofs.Qxb6604777a
set_option linter.unusedSimpArgs false
set_option linter.unusedVariables false
open Go.RowKit

theorem info56 : (Try.prog.info? 56).map (fun i => (i.zero, i.size, i.bytes)) = some (some (.agg #[.int .i64 0, .int .i64 0, .string ByteArray.empty]), 3, 32) := by kernel_rfl

theorem make_shown (n : Nat) (hl : n ≤ 65536) (w : World) :
    (Instr.makeSlice 57 (.int .i64 (n : Int)) (.int .i64 (n : Int))).run Try.prog w = .ok (.slice (some ⟨w.heap.size, 0, none⟩) n n) (w.alloc (.cells (madeCells #[.int .i64 0, .int .i64 0, .string ByteArray.empty] (n * 3)) 56)) := by
  obtain ⟨i, hi, hz, hs, hb⟩ := info_parts info56
  have hr := run_make (P := Try.prog) w 57 56 i _ Try.underlying57 hi hz .i64 .i64 n n (by omega) (by omega) (by rw [hb]; omega) (by omega)
  simpa [hs, Value.cells] using hr

/-- Block b is a row of K summaries of three cells each; the first F of them are told. -/
structure ShownAt (w : World) (b K F : Nat) (ps es : List Int) (rs : List ByteArray) : Prop where
  row : ∃ c : Array Value, w.heap[b]? = some (.cells c 56 (0, 0)) ∧ c.size = K * 3
  p : ∀ f, f < F → w.cell? ⟨b, f * 3, none⟩ = some (.int .i64 (ps.getD f 0))
  e : ∀ f, f < F → w.cell? ⟨b, f * 3 + 1, none⟩ = some (.int .i64 (es.getD f 0))
  r : ∀ f, f < F → w.cell? ⟨b, f * 3 + 2, none⟩ = some (.string (rs.getD f emptyS))

section
variable {w w' : World} {b K F : Nat} {ps es : List Int} {rs : List ByteArray}
theorem cell_of_block {w w' : World} {b : Nat} (h : w'.heap[b]? = w.heap[b]?) (o : Nat) : w'.cell? ⟨b, o, none⟩ = w.cell? ⟨b, o, none⟩ := World.cell?_of_block (w := w) (a := ⟨b, o, none⟩) h
theorem ShownAt.of_block (h : ShownAt w b K F ps es rs) (e : w'.heap[b]? = w.heap[b]?) : ShownAt w' b K F ps es rs :=
  ⟨by rw [e]; exact h.row, fun f hf => (cell_of_block e _).trans (h.p f hf), fun f hf => (cell_of_block e _).trans (h.e f hf), fun f hf => (cell_of_block e _).trans (h.r f hf)⟩
theorem ShownAt.lt (h : ShownAt w b K F ps es rs) : b < w.heap.size := by
  obtain ⟨c, hc, _⟩ := h.row
  exact lt_of_heap hc
theorem ShownAt.there (h : ShownAt w b K F ps es rs) {j : Nat} (hj : j < K * 3) : ∃ v, w.cell? ⟨b, j, none⟩ = some v := by
  obtain ⟨c, hc, hs⟩ := h.row
  refine ⟨c[j], ?_⟩
  simp [World.cell?, hc, hs, hj]
theorem ShownAt.frozen (h : ShownAt w b K F ps es rs) (j : Nat) : w.frozen? ⟨b, j, none⟩ = false := by
  obtain ⟨c, hc, hs⟩ := h.row
  simp [World.frozen?, hc]
theorem ShownAt.made (w : World) (K : Nat) (ps es : List Int) (rs : List ByteArray) (z : Array Value) : ShownAt (w.alloc (.cells (madeCells z (K * 3)) 56)) w.heap.size K 0 ps es rs :=
  ⟨⟨_, heap_alloc_new _ _, size_madeCells _ _⟩, fun f hf => by omega, fun f hf => by omega, fun f hf => by omega⟩
theorem row_set {w : World} {b n : Nat} {t : TypeId} (h : ∃ c : Array Value, w.heap[b]? = some (.cells c t (0, 0)) ∧ c.size = n) (j : Nat) (v : Value) : ∃ c : Array Value, (w.setCell ⟨b, j, none⟩ v).heap[b]? = some (.cells c t (0, 0)) ∧ c.size = n := by
  obtain ⟨c, hc, hs⟩ := h
  exact ⟨c.setIfInBounds j v, by simp [World.setCell, Array.getElem?_modify, hc], by simpa using hs⟩
theorem cell_set_same {w : World} {b j n : Nat} {t : TypeId} (h : ∃ c : Array Value, w.heap[b]? = some (.cells c t (0, 0)) ∧ c.size = n) (hj : j < n) (v : Value) : (w.setCell ⟨b, j, none⟩ v).cell? ⟨b, j, none⟩ = some v := by
  obtain ⟨c, hc, hs⟩ := h
  have : (w.setCell ⟨b, j, none⟩ v).heap[b]? = some (.cells (c.setIfInBounds j v) t (0, 0)) := by simp [World.setCell, Array.getElem?_modify, hc]
  simp [World.cell?, this, hs, hj]
theorem cell_set_far {w : World} {b j i : Nat} (hj : i ≠ j) (v : Value) : (w.setCell ⟨b, j, none⟩ v).cell? ⟨b, i, none⟩ = w.cell? ⟨b, i, none⟩ := by
  unfold World.cell?
  simp only [World.setCell, Array.getElem?_modify]
  cases h : w.heap[b]? with
  | none => simp
  | some o =>
    cases o <;> simp
    rw [Array.getElem?_setIfInBounds, if_neg (fun e => hj e.symm)]
/-- Summary F is stored. -/
theorem ShownAt.put (h : ShownAt w b K F ps es rs) (f : Nat) (hf : f < K) (hF : f ≤ F) (p e : Int) (r : ByteArray) (F' : Nat) (hF' : F' ≤ F ∨ F' = f + 1)  (ps' es' : List Int) (rs' : List ByteArray)
    (hp : ps'.getD f 0 = p) (he : es'.getD f 0 = e) (hr : rs'.getD f emptyS = r)
    (hpo : ∀ g, g < F' → g ≠ f → ps'.getD g 0 = ps.getD g 0) (heo : ∀ g, g < F' → g ≠ f → es'.getD g 0 = es.getD g 0) (hro : ∀ g, g < F' → g ≠ f → rs'.getD g emptyS = rs.getD g emptyS) :
    ShownAt (((w.setCell ⟨b, f * 3, none⟩ (.int .i64 p)).setCell ⟨b, f * 3 + 1, none⟩ (.int .i64 e)).setCell ⟨b, f * 3 + 2, none⟩ (.string r)) b K F' ps' es' rs' := by
  have r0 := h.row
  have r1 := row_set r0 (f * 3) (.int .i64 p)
  have r2 := row_set r1 (f * 3 + 1) (.int .i64 e)
  have r3 := row_set r2 (f * 3 + 2) (.string r)
  have b0 : f * 3 < K * 3 := by omega
  have b1 : f * 3 + 1 < K * 3 := by omega
  have b2 : f * 3 + 2 < K * 3 := by omega
  refine ⟨r3, fun g hg => ?_, fun g hg => ?_, fun g hg => ?_⟩
  · rw [cell_set_far (by omega), cell_set_far (by omega)]
    by_cases e : g = f
    · subst e; rw [cell_set_same r0 b0, hp]
    · rw [cell_set_far (by omega), hpo g hg e]
      exact h.p g (by omega)
  · rw [cell_set_far (by omega)]
    by_cases e : g = f
    · subst e; rw [cell_set_same r1 b1, he]
    · rw [cell_set_far (by omega), cell_set_far (by omega), heo g hg e]
      exact h.e g (by omega)
  · by_cases e : g = f
    · subst e; rw [cell_set_same r2 b2, hr]
    · rw [cell_set_far (by omega), cell_set_far (by omega), cell_set_far (by omega), hro g hg e]
      exact h.r g (by omega)
end

theorem sKeep {B : Nat} {v0 v1 v2 v3 v4 v5 v9 : Value} {W w' : World} (hb : Below W.heap.size W w')
    (h : W.cell? ⟨B, 0, none⟩ = some v0 ∧ W.cell? ⟨B, 1, none⟩ = some v1 ∧ W.cell? ⟨B, 2, none⟩ = some v2 ∧ W.cell? ⟨B, 3, none⟩ = some v3 ∧ W.cell? ⟨B, 4, none⟩ = some v4 ∧ W.cell? ⟨B, 5, none⟩ = some v5 ∧ W.cell? ⟨B, 9, none⟩ = some v9) :
    w'.cell? ⟨B, 0, none⟩ = some v0 ∧ w'.cell? ⟨B, 1, none⟩ = some v1 ∧ w'.cell? ⟨B, 2, none⟩ = some v2 ∧ w'.cell? ⟨B, 3, none⟩ = some v3 ∧ w'.cell? ⟨B, 4, none⟩ = some v4 ∧ w'.cell? ⟨B, 5, none⟩ = some v5 ∧ w'.cell? ⟨B, 9, none⟩ = some v9 := by
  obtain ⟨h0, h1, h2, h3, h4, h5, h9⟩ := h
  exact ⟨(hb.cell (lt_of_cell h0)).trans h0, (hb.cell (lt_of_cell h1)).trans h1, (hb.cell (lt_of_cell h2)).trans h2, (hb.cell (lt_of_cell h3)).trans h3, (hb.cell (lt_of_cell h4)).trans h4, (hb.cell (lt_of_cell h5)).trans h5, (hb.cell (lt_of_cell h9)).trans h9⟩

/-- The loop's knowledge. -/
structure MkAt (w wr : World) (box : Array Value) (K F : Nat) (ps es : List Int) (rs : List ByteArray) : Prop where
  low : Below w.heap.size w wr
  box : wr.heap[w.heap.size]? = some (.cells box 31 (0, 0))
  shown : ShownAt wr (w.heap.size + 1) K F ps es rs
  size : wr.heap.size = w.heap.size + 2

/-- What stands behind zzMake. -/
structure MadeAt (w w' : World) (B : Nat) (v0 v1 v2 v5 v9 : Value) (K l3 l4 : Nat) (xs3 xs4 : List ByteArray) (ps es : List Int) (rs : List ByteArray) : Prop where
  low : Below B w w'
  size : w'.heap.size = B + 5
  shown : ShownAt w' (B + 1) K K ps es rs
  ins : Own Value.string 49 w' (B + 2) l3 xs3
  recs : Own Value.string 49 w' (B + 3) l4 xs4
  tally : w'.heap[B + 4]? = some (.cells #[v0, v1, v2, .slice (some ⟨B + 2, 0, none⟩) l3 l3, .slice none 0 0, .int .i64 0, .slice (some ⟨B + 3, 0, none⟩) l4 l4, v5, .slice (some ⟨B + 1, 0, none⟩) K K, v9] 60 (0, 0))

set_option maxRecDepth 100000 in
set_option maxHeartbeats 2000000 in
theorem make_any (a0 a1 a2 a5 a6 a7 a8 a9 : Option Addr) (p3 p4 : Addr) (l0 l1 l2 l3 l4 l5 K l9 c0 c1 c2 c3 c4 c5 c6 c7 c8 c9 : Nat) (xs3 xs4 : List ByteArray) (ps es : List Int) (rs : List ByteArray) (w : World) (hK : K ≤ 65536)
    (hp : Reads (Value.int .i64) w a6 ps) (he : Reads (Value.int .i64) w a7 es) (hr : Reads Value.string w a8 rs) (hpl : ps.length = K) (hel : es.length = K) (hrl : rs.length = K)
    (h3 : Reads Value.string w (some p3) xs3) (h4 : Reads Value.string w (some p4) xs4) (h3l : xs3.length = l3) (h4l : xs4.length = l4) (hl3 : l3 ≤ 65536) (hl4 : l4 ≤ 65536) :
    Calls Try.prog 26 #[.agg #[.slice a0 l0 c0, .slice a1 l1 c1, .slice a2 l2 c2, .slice (some p3) l3 c3, .slice (some p4) l4 c4, .slice a5 l5 c5, .slice a6 K c6, .slice a7 K c7, .slice a8 K c8, .slice a9 l9 c9]] w fun e w' =>
      e = .returned (.pointer (some ⟨w.heap.size + 4, 0, none⟩)) ∧ MadeAt w w' w.heap.size (.slice a0 l0 c0) (.slice a1 l1 c1) (.slice a2 l2 c2) (.slice a5 l5 c5) (.slice a9 l9 c9) K l3 l4 xs3 xs4 ps es rs := by
  have HP : Hid (ps.length = K) := hpl
  have HE : Hid (es.length = K) := hel
  have HR : Hid (rs.length = K) := hrl
  have H3 : Hid (xs3.length = l3) := h3l
  have H4 : Hid (xs4.length = l4) := h4l
  clear hpl hel hrl h3l h4l
  have hmk := make_shown K hK
  go_enter Try.func26, Try.ntmps26
  go_wp2
  clear hmk
  have S0 : Hid (MkAt w ((w.alloc (.cells #[.slice a0 l0 c0, .slice a1 l1 c1, .slice a2 l2 c2, .slice (some p3) l3 c3, .slice (some p4) l4 c4, .slice a5 l5 c5, .slice a6 K c6, .slice a7 K c7, .slice a8 K c8, .slice a9 l9 c9] 31)).alloc (.cells (madeCells #[.int .i64 0, .int .i64 0, .string ByteArray.empty] (K * 3)) 56)) #[.slice a0 l0 c0, .slice a1 l1 c1, .slice a2 l2 c2, .slice (some p3) l3 c3, .slice (some p4) l4 c4, .slice a5 l5 c5, .slice a6 K c6, .slice a7 K c7, .slice a8 K c8, .slice a9 l9 c9] K 0 ps es rs) := by
    refine ⟨((Below.refl _ _).alloc (Nat.le_refl _) _).alloc (by simp) _, ?_, ?_, by simp⟩
    · rw [Below.heap_alloc _ _ _ (by simp)]
      exact heap_alloc_new _ _
    · have := ShownAt.made (w.alloc (.cells #[.slice a0 l0 c0, .slice a1 l1 c1, .slice a2 l2 c2, .slice (some p3) l3 c3, .slice (some p4) l4 c4, .slice a5 l5 c5, .slice a6 K c6, .slice a7 K c7, .slice a8 K c8, .slice a9 l9 c9] 31)) K ps es rs #[.int .i64 0, .int .i64 0, .string ByteArray.empty]
      rw [World.size_alloc] at this
      exact this
  go_loopw [4] (fun v wr => ∃ F : Nat, F ≤ K ∧ v = .int .i64 F ∧ MkAt w wr #[.slice a0 l0 c0, .slice a1 l1 c1, .slice a2 l2 c2, .slice (some p3) l3 c3, .slice (some p4) l4 c4, .slice a5 l5 c5, .slice a6 K c6, .slice a7 K c7, .slice a8 K c8, .slice a9 l9 c9] K F ps es rs) (fun v _ => K - (intOf v).toNat)
  case atStart => exact ⟨0, Nat.zero_le _, rfl, S0.out⟩
  case round =>
    obtain ⟨F, hF, rfl, hM⟩ := hrel
    by_cases hlt : F < K
    · have hFp : F < ps.length := by have := HP.out; omega
      have hFe : F < es.length := by have := HE.out; omega
      have hFr : F < rs.length := by have := HR.out; omega
      obtain ⟨b6, o6, e6, hc6⟩ := hp F hFp
      obtain ⟨b7, o7, e7, hc7⟩ := he F hFe
      obtain ⟨b8, o8, e8, hc8⟩ := hr F hFr
      cases e6; cases e7; cases e8
      have hltI : (F : Int) < (K : Int) := by omega
      have y6 : wr.cell? ⟨b6, o6 + F, none⟩ = some (.int .i64 ps[F]) := (hM.low.cell (lt_of_cell hc6)).trans hc6
      have y7 : wr.cell? ⟨b7, o7 + F, none⟩ = some (.int .i64 es[F]) := (hM.low.cell (lt_of_cell hc7)).trans hc7
      have y8 : wr.cell? ⟨b8, o8 + F, none⟩ = some (.string rs[F]) := (hM.low.cell (lt_of_cell hc8)).trans hc8
      have l6 : b6 < w.heap.size := lt_of_cell hc6
      have l7 : b7 < w.heap.size := lt_of_cell hc7
      have l8 : b8 < w.heap.size := lt_of_cell hc8
      have z6 : wr.cell? ⟨w.heap.size, 6, none⟩ = some (.slice (some ⟨b6, o6, none⟩) K c6) := by simp [World.cell?, hM.box]
      have z7 : wr.cell? ⟨w.heap.size, 7, none⟩ = some (.slice (some ⟨b7, o7, none⟩) K c7) := by simp [World.cell?, hM.box]
      have z8 : wr.cell? ⟨w.heap.size, 8, none⟩ = some (.slice (some ⟨b8, o8, none⟩) K c8) := by simp [World.cell?, hM.box]
      obtain ⟨x0, t0⟩ := hM.shown.there (j := F * 3) (by omega)
      obtain ⟨x1, t1⟩ := hM.shown.there (j := F * 3 + 1) (by omega)
      obtain ⟨x2, t2⟩ := hM.shown.there (j := F * 3 + 2) (by omega)
      have f0 := hM.shown.frozen (F * 3)
      have f1 := hM.shown.frozen (F * 3 + 1)
      have f2 := hM.shown.frozen (F * 3 + 2)
      have S1 := hM.shown.put F hlt (Nat.le_refl _) ps[F] es[F] rs[F] (F + 1) (.inr rfl) ps es rs (by simp [hFp]) (by simp [hFe]) (by simp [hFr]) (fun _ _ _ => rfl) (fun _ _ _ => rfl) (fun _ _ _ => rfl)
      have hM' : Hid (MkAt w (((wr.setCell ⟨w.heap.size + 1, F * 3, none⟩ (.int .i64 ps[F])).setCell ⟨w.heap.size + 1, F * 3 + 1, none⟩ (.int .i64 es[F])).setCell ⟨w.heap.size + 1, F * 3 + 2, none⟩ (.string rs[F])).drew #[.slice a0 l0 c0, .slice a1 l1 c1, .slice a2 l2 c2, .slice (some p3) l3 c3, .slice (some p4) l4 c4, .slice a5 l5 c5, .slice (some ⟨b6, o6, none⟩) K c6, .slice (some ⟨b7, o7, none⟩) K c7, .slice (some ⟨b8, o8, none⟩) K c8, .slice a9 l9 c9] K (F + 1) ps es rs) := by
        refine ⟨(((hM.low.setCell (by show _ ≤ w.heap.size + 1; omega) _).setCell (by show _ ≤ w.heap.size + 1; omega) _).setCell (by show _ ≤ w.heap.size + 1; omega) _).drew, ?_, S1.of_block rfl, ?_⟩
        · show (((wr.setCell ⟨w.heap.size + 1, F * 3, none⟩ (.int .i64 ps[F])).setCell ⟨w.heap.size + 1, F * 3 + 1, none⟩ (.int .i64 es[F])).setCell ⟨w.heap.size + 1, F * 3 + 2, none⟩ (.string rs[F])).heap[w.heap.size]? = _
          rw [Below.heap_setCell _ _ _ _ (by simp), Below.heap_setCell _ _ _ _ (by simp), Below.heap_setCell _ _ _ _ (by simp)]
          exact hM.box
        · simpa using hM.size
      clear S1 hc6 hc7 hc8 hM
      go_wp2
      go_region
      all_goals
        go_wp2
        go_roundw
        case rel => exact ⟨F + 1, by omega, by go_num, hM'.out⟩
        case measure => simp [intOf]; omega
    · obtain rfl : F = K := by omega
      have hz := hM.box
      have hsz := hM.size
      have hlow := hM.low
      have z0 : wr.cell? ⟨w.heap.size, 0, none⟩ = some (.slice a0 l0 c0) := by simp [World.cell?, hz]
      have z1 : wr.cell? ⟨w.heap.size, 1, none⟩ = some (.slice a1 l1 c1) := by simp [World.cell?, hz]
      have z2 : wr.cell? ⟨w.heap.size, 2, none⟩ = some (.slice a2 l2 c2) := by simp [World.cell?, hz]
      have z3 : wr.cell? ⟨w.heap.size, 3, none⟩ = some (.slice (some p3) l3 c3) := by simp [World.cell?, hz]
      have z4 : wr.cell? ⟨w.heap.size, 4, none⟩ = some (.slice (some p4) l4 c4) := by simp [World.cell?, hz]
      have z5 : wr.cell? ⟨w.heap.size, 5, none⟩ = some (.slice a5 l5 c5) := by simp [World.cell?, hz]
      have z9 : wr.cell? ⟨w.heap.size, 9, none⟩ = some (.slice a9 l9 c9) := by simp [World.cell?, hz]
      have C3 : Hid (∀ W, Below w.heap.size w W → Calls Try.prog 35 #[.slice (some p3) l3 c3] W fun e w' => e = .returned (.slice (some ⟨W.heap.size, 0, none⟩) l3 l3) ∧ Own Value.string 49 w' W.heap.size l3 xs3 ∧ Below W.heap.size W w' ∧ w'.heap.size = W.heap.size + 1) := fun W hW => zzValues_some p3 c3 l3 xs3 W (by omega) H3.out (h3.keep hW)
      have C4 : Hid (∀ W, Below w.heap.size w W → Calls Try.prog 35 #[.slice (some p4) l4 c4] W fun e w' => e = .returned (.slice (some ⟨W.heap.size, 0, none⟩) l4 l4) ∧ Own Value.string 49 w' W.heap.size l4 xs4 ∧ Below W.heap.size W w' ∧ w'.heap.size = W.heap.size + 1) := fun W hW => zzValues_some p4 c4 l4 xs4 W (by omega) H4.out (h4.keep hW)
      clear hp he hr h3 h4 hz
      go_wp2_with fail
      go_region_held3 (fun W => W.cell? ⟨w.heap.size, 0, none⟩ = some (.slice a0 l0 c0) ∧ W.cell? ⟨w.heap.size, 1, none⟩ = some (.slice a1 l1 c1) ∧ W.cell? ⟨w.heap.size, 2, none⟩ = some (.slice a2 l2 c2) ∧ W.cell? ⟨w.heap.size, 3, none⟩ = some (.slice (some p3) l3 c3) ∧ W.cell? ⟨w.heap.size, 4, none⟩ = some (.slice (some p4) l4 c4) ∧ W.cell? ⟨w.heap.size, 5, none⟩ = some (.slice a5 l5 c5) ∧ W.cell? ⟨w.heap.size, 9, none⟩ = some (.slice a9 l9 c9)) (first | exact k2 | exact k1 | go_keep)
        (first | (go_at_call_of 35 (Value.slice (some p3) l3 c3); refine (C3.out _ ?_).mono ?_; (exact hlow.drew); rintro e w' ⟨rfl, ho3, hb3, hs3⟩; have k1 := sKeep hb3 ⟨z0, z1, z2, z3, z4, z5, z9⟩; have hlow1 := hlow.drew.trans (hb3.mono (by simp; omega))) | (go_at_call_of 35 (Value.slice (some p4) l4 c4); refine (C4.out _ hlow1).mono ?_; rintro e w'' ⟨rfl, ho4, hb4, hs4⟩; have k2 := sKeep hb4 k1))
      all_goals
        go_wp2
        go_ret
        have e3 : w'.heap.size = w.heap.size + 3 := by rw [hs3]; show wr.heap.size + 1 = _; omega
        have e4 : w''.heap.size = w.heap.size + 4 := by omega
        have ho3' : Own Value.string 49 w' (w.heap.size + 2) l3 xs3 := by have := ho3; rw [show wr.drew.heap.size = w.heap.size + 2 from hsz] at this; exact this
        have ho4' : Own Value.string 49 w'' (w.heap.size + 3) l4 xs4 := by rw [e3] at ho4; exact ho4
        have hl2 : Below w.heap.size w w'' := hlow1.trans (hb4.mono (by omega))
        have hsh : ShownAt w'' (w.heap.size + 1) F F ps es rs := hM.shown.of_block ((hb4.block _ (by omega)).trans (hb3.block _ (by show _ < wr.heap.size; omega)))
        refine ⟨rfl, hl2.alloc (by omega) _, by simp [e4], hsh.of_block (Below.heap_alloc _ _ _ (by omega)), ((ho3'.of_block (hb4.block _ (by omega))).alloc _), ho4'.alloc _, ?_⟩
        have := heap_alloc_new w'' (.cells #[.slice a0 l0 c0, .slice a1 l1 c1, .slice a2 l2 c2, .slice (some ⟨w.heap.size + 2, 0, none⟩) l3 l3, .slice none 0 0, .int .i64 0, .slice (some ⟨w.heap.size + 3, 0, none⟩) l4 l4, .slice a5 l5 c5, .slice (some ⟨w.heap.size + 1, 0, none⟩) F F, .slice a9 l9 c9] 60)
        rw [e4] at this
        exact this
end Go.Proofs.Qxb6604777a
