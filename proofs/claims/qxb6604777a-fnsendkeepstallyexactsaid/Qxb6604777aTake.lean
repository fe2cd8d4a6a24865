/-
  The walk of zzTake: the fields of a tally handed back as plain data.
-/
import Derived.Test.Qxb6604777aCounts
import Derived.Test.Qxb6604777aMake
namespace Go.Proofs.Qxb6604777a
set_option linter.unusedSimpArgs false
set_option linter.unusedVariables false
open Go.RowKit

theorem tKeep {T : Nat} {v0 v1 v2 v3 v6 v7 v9 : Value} {W w' : World} (hb : Below W.heap.size W w')
    (h : W.cell? ⟨T, 0, none⟩ = some v0 ∧ W.cell? ⟨T, 1, none⟩ = some v1 ∧ W.cell? ⟨T, 2, none⟩ = some v2 ∧ W.cell? ⟨T, 3, none⟩ = some v3 ∧ W.cell? ⟨T, 6, none⟩ = some v6 ∧ W.cell? ⟨T, 7, none⟩ = some v7 ∧ W.cell? ⟨T, 9, none⟩ = some v9) :
    w'.cell? ⟨T, 0, none⟩ = some v0 ∧ w'.cell? ⟨T, 1, none⟩ = some v1 ∧ w'.cell? ⟨T, 2, none⟩ = some v2 ∧ w'.cell? ⟨T, 3, none⟩ = some v3 ∧ w'.cell? ⟨T, 6, none⟩ = some v6 ∧ w'.cell? ⟨T, 7, none⟩ = some v7 ∧ w'.cell? ⟨T, 9, none⟩ = some v9 := by
  obtain ⟨h0, h1, h2, h3, h4, h5, h9⟩ := h
  exact ⟨(hb.cell (lt_of_cell h0)).trans h0, (hb.cell (lt_of_cell h1)).trans h1, (hb.cell (lt_of_cell h2)).trans h2, (hb.cell (lt_of_cell h3)).trans h3, (hb.cell (lt_of_cell h4)).trans h4, (hb.cell (lt_of_cell h5)).trans h5, (hb.cell (lt_of_cell h9)).trans h9⟩

theorem cell_far10 {T B : Nat} (hne : ¬ T = B) (W : World) (u0 u1 u2 u3 u4 u5 u6 u7 u8 u9 : Value) (o : Nat) :
    (((((((((((W.setCell ⟨B, 0, none⟩ u0).setCell ⟨B, 1, none⟩ u1).setCell ⟨B, 2, none⟩ u2).setCell ⟨B, 3, none⟩ u3).setCell ⟨B, 4, none⟩ u4).setCell ⟨B, 5, none⟩ u5).setCell ⟨B, 6, none⟩ u6).setCell ⟨B, 7, none⟩ u7).setCell ⟨B, 8, none⟩ u8).setCell ⟨B, 9, none⟩ u9)).cell? ⟨T, o, none⟩ = W.cell? ⟨T, o, none⟩ := by
  have h := putRow_other B T hne [u0, u1, u2, u3, u4, u5, u6, u7, u8, u9] 0 W
  exact World.cell?_of_block (w := W) (a := ⟨T, o, none⟩) h
theorem tFar {T B : Nat} (hne : ¬ T = B) {W : World} {u0 u1 u2 u3 u4 u5 u6 u7 u8 u9 v0 v1 v2 v3 v6 v7 v9 : Value} (h : W.cell? ⟨T, 0, none⟩ = some v0 ∧ W.cell? ⟨T, 1, none⟩ = some v1 ∧ W.cell? ⟨T, 2, none⟩ = some v2 ∧ W.cell? ⟨T, 3, none⟩ = some v3 ∧ W.cell? ⟨T, 6, none⟩ = some v6 ∧ W.cell? ⟨T, 7, none⟩ = some v7 ∧ W.cell? ⟨T, 9, none⟩ = some v9) :
    (((((((((((W.setCell ⟨B, 0, none⟩ u0).setCell ⟨B, 1, none⟩ u1).setCell ⟨B, 2, none⟩ u2).setCell ⟨B, 3, none⟩ u3).setCell ⟨B, 4, none⟩ u4).setCell ⟨B, 5, none⟩ u5).setCell ⟨B, 6, none⟩ u6).setCell ⟨B, 7, none⟩ u7).setCell ⟨B, 8, none⟩ u8).setCell ⟨B, 9, none⟩ u9)).cell? ⟨T, 0, none⟩ = some v0 ∧ (((((((((((W.setCell ⟨B, 0, none⟩ u0).setCell ⟨B, 1, none⟩ u1).setCell ⟨B, 2, none⟩ u2).setCell ⟨B, 3, none⟩ u3).setCell ⟨B, 4, none⟩ u4).setCell ⟨B, 5, none⟩ u5).setCell ⟨B, 6, none⟩ u6).setCell ⟨B, 7, none⟩ u7).setCell ⟨B, 8, none⟩ u8).setCell ⟨B, 9, none⟩ u9)).cell? ⟨T, 1, none⟩ = some v1 ∧ (((((((((((W.setCell ⟨B, 0, none⟩ u0).setCell ⟨B, 1, none⟩ u1).setCell ⟨B, 2, none⟩ u2).setCell ⟨B, 3, none⟩ u3).setCell ⟨B, 4, none⟩ u4).setCell ⟨B, 5, none⟩ u5).setCell ⟨B, 6, none⟩ u6).setCell ⟨B, 7, none⟩ u7).setCell ⟨B, 8, none⟩ u8).setCell ⟨B, 9, none⟩ u9)).cell? ⟨T, 2, none⟩ = some v2 ∧ (((((((((((W.setCell ⟨B, 0, none⟩ u0).setCell ⟨B, 1, none⟩ u1).setCell ⟨B, 2, none⟩ u2).setCell ⟨B, 3, none⟩ u3).setCell ⟨B, 4, none⟩ u4).setCell ⟨B, 5, none⟩ u5).setCell ⟨B, 6, none⟩ u6).setCell ⟨B, 7, none⟩ u7).setCell ⟨B, 8, none⟩ u8).setCell ⟨B, 9, none⟩ u9)).cell? ⟨T, 3, none⟩ = some v3 ∧ (((((((((((W.setCell ⟨B, 0, none⟩ u0).setCell ⟨B, 1, none⟩ u1).setCell ⟨B, 2, none⟩ u2).setCell ⟨B, 3, none⟩ u3).setCell ⟨B, 4, none⟩ u4).setCell ⟨B, 5, none⟩ u5).setCell ⟨B, 6, none⟩ u6).setCell ⟨B, 7, none⟩ u7).setCell ⟨B, 8, none⟩ u8).setCell ⟨B, 9, none⟩ u9)).cell? ⟨T, 6, none⟩ = some v6 ∧ (((((((((((W.setCell ⟨B, 0, none⟩ u0).setCell ⟨B, 1, none⟩ u1).setCell ⟨B, 2, none⟩ u2).setCell ⟨B, 3, none⟩ u3).setCell ⟨B, 4, none⟩ u4).setCell ⟨B, 5, none⟩ u5).setCell ⟨B, 6, none⟩ u6).setCell ⟨B, 7, none⟩ u7).setCell ⟨B, 8, none⟩ u8).setCell ⟨B, 9, none⟩ u9)).cell? ⟨T, 7, none⟩ = some v7 ∧ (((((((((((W.setCell ⟨B, 0, none⟩ u0).setCell ⟨B, 1, none⟩ u1).setCell ⟨B, 2, none⟩ u2).setCell ⟨B, 3, none⟩ u3).setCell ⟨B, 4, none⟩ u4).setCell ⟨B, 5, none⟩ u5).setCell ⟨B, 6, none⟩ u6).setCell ⟨B, 7, none⟩ u7).setCell ⟨B, 8, none⟩ u8).setCell ⟨B, 9, none⟩ u9)).cell? ⟨T, 9, none⟩ = some v9 := by
  obtain ⟨h0, h1, h2, h3, h6, h7, h9⟩ := h
  refine ⟨?_, ?_, ?_, ?_, ?_, ?_, ?_⟩ <;> (rw [cell_far10 hne]; assumption)

/-- In the midst of the loop. -/
structure TakeAt (w wr : World) (K F : Nat) (ps es : List Int) (rs : List ByteArray) : Prop where
  low : Below w.heap.size w wr
  box : wr.heap[w.heap.size]? = some (.cells #[.slice none 0 0, .slice none 0 0, .slice none 0 0, .slice none 0 0, .slice none 0 0, .slice none 0 0, .slice none 0 0, .slice none 0 0, .slice none 0 0, .slice none 0 0] 31 (0, 0))
  pres : Own (Value.int .i64) 3 wr (w.heap.size + 1) K (ps.take F)
  eq : Own (Value.int .i64) 3 wr (w.heap.size + 2) K (es.take F)
  ref : Own Value.string 9 wr (w.heap.size + 3) K (rs.take F)
  size : wr.heap.size = w.heap.size + 4

theorem take_start (w : World) (K : Nat) (ps es : List Int) (rs : List ByteArray) (z z' z'' : Value) :
    TakeAt w ((((w.alloc (.cells #[.slice none 0 0, .slice none 0 0, .slice none 0 0, .slice none 0 0, .slice none 0 0, .slice none 0 0, .slice none 0 0, .slice none 0 0, .slice none 0 0, .slice none 0 0] 31)).alloc (.cells (madeCells #[z] K) 3)).alloc (.cells (madeCells #[z'] K) 3)).alloc (.cells (madeCells #[z''] K) 9)) K 0 ps es rs := by
  refine ⟨(((((Below.refl _ _).alloc (Nat.le_refl _) _).alloc (by simp) _).alloc (by simp; omega) _).alloc (by simp; omega) _), ?_, ?_, ?_, ?_, by simp⟩
  · rw [Below.heap_alloc _ _ _ (by simp; omega), Below.heap_alloc _ _ _ (by simp; omega), Below.heap_alloc _ _ _ (by simp)]
    exact heap_alloc_new _ _
  · have := ((Own.made_none (f := Value.int .i64) (w.alloc (.cells #[.slice none 0 0, .slice none 0 0, .slice none 0 0, .slice none 0 0, .slice none 0 0, .slice none 0 0, .slice none 0 0, .slice none 0 0, .slice none 0 0, .slice none 0 0] 31)) K 3 z).alloc (.cells (madeCells #[z'] K) 3)).alloc (.cells (madeCells #[z''] K) 9)
    rw [World.size_alloc] at this
    exact this
  · have := (Own.made_none (f := Value.int .i64) ((w.alloc (.cells #[.slice none 0 0, .slice none 0 0, .slice none 0 0, .slice none 0 0, .slice none 0 0, .slice none 0 0, .slice none 0 0, .slice none 0 0, .slice none 0 0, .slice none 0 0] 31)).alloc (.cells (madeCells #[z] K) 3)) K 3 z').alloc (.cells (madeCells #[z''] K) 9)
    rw [World.size_alloc, World.size_alloc] at this
    exact this
  · have := Own.made_none (f := Value.string) (((w.alloc (.cells #[.slice none 0 0, .slice none 0 0, .slice none 0 0, .slice none 0 0, .slice none 0 0, .slice none 0 0, .slice none 0 0, .slice none 0 0, .slice none 0 0, .slice none 0 0] 31)).alloc (.cells (madeCells #[z] K) 3)).alloc (.cells (madeCells #[z'] K) 3)) K 9 z''
    rw [World.size_alloc, World.size_alloc, World.size_alloc] at this
    exact this

theorem take_step {w wr : World} {K F : Nat} {ps es : List Int} {rs : List ByteArray} (h : TakeAt w wr K F ps es rs) (hF : F < K) (hp : ps.length = K) (he : es.length = K) (hr : rs.length = K) (p e : Int) (r : ByteArray) (hpv : ps[F]'(by omega) = p) (hev : es[F]'(by omega) = e) (hrv : rs[F]'(by omega) = r) :
    TakeAt w (((wr.setCell ⟨w.heap.size + 1, F, none⟩ (.int .i64 p)).setCell ⟨w.heap.size + 2, F, none⟩ (.int .i64 e)).setCell ⟨w.heap.size + 3, F, none⟩ (.string r)) K (F + 1) ps es rs := by
  have l1 : (ps.take F).length = F := by rw [List.length_take]; omega
  have l2 : (es.take F).length = F := by rw [List.length_take]; omega
  have l3 : (rs.take F).length = F := by rw [List.length_take]; omega
  refine ⟨((h.low.setCell (by show _ ≤ w.heap.size + 1; omega) _).setCell (by show _ ≤ w.heap.size + 2; omega) _).setCell (by show _ ≤ w.heap.size + 3; omega) _, ?_, ?_, ?_, ?_, by simpa using h.size⟩
  · rw [Below.heap_setCell _ _ _ _ (by simp), Below.heap_setCell _ _ _ _ (by simp), Below.heap_setCell _ _ _ _ (by simp)]
    exact h.box
  · have := h.pres.push (by omega) p
    rw [l1, ← hpv, ← List.take_succ_eq_append_getElem (by omega)] at this
    rw [← hpv]
    exact (this.other (by simp) _).other (by simp) _
  · have := (h.eq.other (p := ⟨w.heap.size + 1, F, none⟩) (by simp) (.int .i64 p)).push (by omega) e
    rw [l2, ← hev, ← List.take_succ_eq_append_getElem (by omega)] at this
    rw [← hev]
    exact this.other (by simp) _
  · have := ((h.ref.other (p := ⟨w.heap.size + 1, F, none⟩) (by simp) (.int .i64 p)).other (p := ⟨w.heap.size + 2, F, none⟩) (by simp) (.int .i64 e)).push (by omega) r
    rw [l3, ← hrv, ← List.take_succ_eq_append_getElem (by omega)] at this
    rw [← hrv]
    exact this

/-- What stands behind zzTake. -/
structure TookAt (w w' : World) (K l3 l4 : Nat) (xs3 xs4 : List ByteArray) (ps es : List Int) (rs : List ByteArray) : Prop where
  low : Below w.heap.size w w'
  ins : Own Value.string 9 w' (w.heap.size + 4) l3 xs3
  recs : Own Value.string 9 w' (w.heap.size + 5) l4 xs4
  pres : Own (Value.int .i64) 3 w' (w.heap.size + 1) K ps
  eq : Own (Value.int .i64) 3 w' (w.heap.size + 2) K es
  ref : Own Value.string 9 w' (w.heap.size + 3) K rs

set_option maxRecDepth 100000 in
set_option maxHeartbeats 4000000 in
theorem take_any (T bs K l3 l4 : Nat) (p3 p4 : Addr) (a0 a1 a2 a7 a9 : Option Addr) (m0 m1 m2 m7 m9 q0 q1 q2 q7 q9 : Nat) (v4 v5 : Value) (xs3 xs4 : List ByteArray) (ps es : List Int) (rs : List ByteArray) (w : World) (hK : K ≤ 65536) (hl3 : l3 ≤ 65536) (hl4 : l4 ≤ 65536)
    (hT : TalAt w T (.slice a0 m0 q0) (.slice a1 m1 q1) (.slice a2 m2 q2) (.slice (some p3) l3 l3) v4 v5 (.slice (some p4) l4 l4) (.slice a7 m7 q7) (.slice (some ⟨bs, 0, none⟩) K K) (.slice a9 m9 q9)) (hS : ShownAt w bs K K ps es rs) (hpl : ps.length = K) (hel : es.length = K) (hrl : rs.length = K)
    (h3 : Reads Value.string w (some p3) xs3) (h4 : Reads Value.string w (some p4) xs4) (h3l : xs3.length = l3) (h4l : xs4.length = l4) :
    Calls Try.prog 28 #[.pointer (some ⟨T, 0, none⟩)] w fun e w' => e = .returned (.agg #[.slice a0 m0 q0, .slice a1 m1 q1, .slice a2 m2 q2, .slice (some ⟨w.heap.size + 4, 0, none⟩) l3 l3, .slice (some ⟨w.heap.size + 5, 0, none⟩) l4 l4, .slice a7 m7 q7, .slice (some ⟨w.heap.size + 1, 0, none⟩) K K, .slice (some ⟨w.heap.size + 2, 0, none⟩) K K, .slice (some ⟨w.heap.size + 3, 0, none⟩) K K, .slice a9 m9 q9]) ∧ TookAt w w' K l3 l4 xs3 xs4 ps es rs := by
  have HP := hide hpl
  have HE := hide hel
  have HR := hide hrl
  have H3 := hide h3l
  have H4 := hide h4l
  have HT := hide hT
  have HS := hide hS
  have hTl := hT.lt
  have hsl := hS.lt
  have c8 := hT.c8
  have c8' : ∀ W, Below w.heap.size w W → W.cell? ⟨T, 8, none⟩ = some (.slice (some ⟨bs, 0, none⟩) K K) := fun W hW => (hW.cell (p := ⟨T, 8, none⟩) hTl).trans c8
  have b1 := c8' _ ((Below.refl w.heap.size w).alloc (Nat.le_refl _) (.cells #[.slice none 0 0, .slice none 0 0, .slice none 0 0, .slice none 0 0, .slice none 0 0, .slice none 0 0, .slice none 0 0, .slice none 0 0, .slice none 0 0, .slice none 0 0] 31))
  have b2 := c8' _ (((Below.refl w.heap.size w).alloc (Nat.le_refl _) (.cells #[.slice none 0 0, .slice none 0 0, .slice none 0 0, .slice none 0 0, .slice none 0 0, .slice none 0 0, .slice none 0 0, .slice none 0 0, .slice none 0 0, .slice none 0 0] 31)).alloc (by simp) (.cells (madeCells #[.int .i64 0] K) 3))
  have b3 := c8' _ ((((Below.refl w.heap.size w).alloc (Nat.le_refl _) (.cells #[.slice none 0 0, .slice none 0 0, .slice none 0 0, .slice none 0 0, .slice none 0 0, .slice none 0 0, .slice none 0 0, .slice none 0 0, .slice none 0 0, .slice none 0 0] 31)).alloc (by simp) (.cells (madeCells #[.int .i64 0] K) 3)).alloc (by simp; omega) (.cells (madeCells #[.int .i64 0] K) 3))
  have hmi := run_make_row' (P := Try.prog) 27 3 (.int .i64 0) 8 Try.underlying27 info3 rfl .i64 .i64 K (by omega) (by omega)
  have hms := run_make_row' (P := Try.prog) 23 9 (.string ByteArray.empty) 16 Try.underlying23 info9 rfl .i64 .i64 K (by omega) (by omega)
  have HC := hide c8'
  clear hpl hel hrl h3l h4l hT hS c8'
  go_enter Try.func28, Try.ntmps28
  go_wp2
  clear hmi hms b1 b2 b3
  have S0 := hide (take_start w K ps es rs (.int .i64 0) (.int .i64 0) (.string ByteArray.empty))
  go_loopw [6] (fun v wr => ∃ F : Nat, F ≤ K ∧ v = .int .i64 F ∧ TakeAt w wr K F ps es rs) (fun v _ => K - (intOf v).toNat)
  case atStart => exact ⟨0, Nat.zero_le _, rfl, S0.out⟩
  case round =>
    obtain ⟨F, hF, rfl, hM⟩ := hrel
    have d8 := HC.out wr hM.low
    by_cases hlt : F < K
    · obtain ⟨p, hp⟩ : ∃ p, ps.getD F 0 = p := ⟨_, rfl⟩
      obtain ⟨e, he⟩ : ∃ e, es.getD F 0 = e := ⟨_, rfl⟩
      obtain ⟨r, hr⟩ : ∃ r, rs.getD F emptyS = r := ⟨_, rfl⟩
      have y0 : wr.cell? ⟨bs, F * 3, none⟩ = some (.int .i64 p) := by rw [← hp]; exact (hM.low.cell (p := ⟨bs, F * 3, none⟩) hsl).trans (HS.out.p F hlt)
      have y1 : wr.cell? ⟨bs, F * 3 + 1, none⟩ = some (.int .i64 e) := by rw [← he]; exact (hM.low.cell (p := ⟨bs, F * 3 + 1, none⟩) hsl).trans (HS.out.e F hlt)
      have y2 : wr.cell? ⟨bs, F * 3 + 2, none⟩ = some (.string r) := by rw [← hr]; exact (hM.low.cell (p := ⟨bs, F * 3 + 2, none⟩) hsl).trans (HS.out.r F hlt)
      obtain ⟨x0, t0⟩ := hM.pres.there hlt
      obtain ⟨x1, t1⟩ := hM.eq.there hlt
      obtain ⟨x2, t2⟩ := hM.ref.there hlt
      have f0 := hM.pres.frozen F
      have f1 := hM.eq.frozen F
      have f2 := hM.ref.frozen F
      have hltI : (F : Int) < (K : Int) := by omega
      have hM' := hide (take_step hM hlt HP.out HE.out HR.out p e r (by rw [← hp]; have := HP.out; simp [this, hlt]) (by rw [← he]; have := HE.out; simp [this, hlt]) (by rw [← hr]; have := HR.out; simp [this, hlt]))
      have hTB : T ≠ w.heap.size + 1 ∧ T ≠ w.heap.size + 2 ∧ bs ≠ w.heap.size + 1 ∧ bs ≠ w.heap.size + 2 := by omega
      obtain ⟨n1, n2, n3, n4⟩ := hTB
      clear hM hp he hr
      go_wp2
      go_roundw
      case rel => exact ⟨F + 1, by omega, by go_num, hM'.out⟩
      case measure => simp [intOf]; omega
    · obtain rfl : F = K := by omega
      have hT' := HT.out.of_block (hM.low.block _ hTl)
      have z0 := hT'.c0
      have z1 := hT'.c1
      have z2 := hT'.c2
      have z3 := hT'.c3
      have z6 := hT'.c6
      have z7 := hT'.c7
      have z9 := hT'.c9
      have hsz := hM.size
      have hlow := hM.low
      have C3 : Hid (∀ W, Below w.heap.size w W → Calls Try.prog 38 #[.slice (some p3) l3 l3] W fun e w' => e = .returned (.slice (some ⟨W.heap.size, 0, none⟩) l3 l3) ∧ Own Value.string 9 w' W.heap.size l3 xs3 ∧ Below W.heap.size W w' ∧ w'.heap.size = W.heap.size + 1) := fun W hW => zzStrings_some p3 l3 l3 xs3 W (by omega) H3.out (h3.keep hW)
      have C4 : Hid (∀ W, Below w.heap.size w W → Calls Try.prog 38 #[.slice (some p4) l4 l4] W fun e w' => e = .returned (.slice (some ⟨W.heap.size, 0, none⟩) l4 l4) ∧ Own Value.string 9 w' W.heap.size l4 xs4 ∧ Below W.heap.size W w' ∧ w'.heap.size = W.heap.size + 1) := fun W hW => zzStrings_some p4 l4 l4 xs4 W (by omega) H4.out (h4.keep hW)
      clear h3 h4 hT'
      go_wp2_with fail
      have hne : ¬ T = w.heap.size := by omega
      have hBlt : w.heap.size < wr.heap.size := by omega
      have HB := hide hM.box
      have hBW : Hid (∀ W, Below wr.heap.size wr W → (∀ i, i < 10 → W.cell? ⟨w.heap.size, i, none⟩ = some (.slice none 0 0)) ∧ (∀ i, W.frozen? ⟨w.heap.size, i, none⟩ = false)) := fun W hW => by
        have hb5 := (hW.block _ hBlt).trans hM.box
        refine ⟨fun i hi => ?_, fun i => by simp [World.frozen?, hb5]⟩
        match i, hi with
        | 0, _ | 1, _ | 2, _ | 3, _ | 4, _ | 5, _ | 6, _ | 7, _ | 8, _ | 9, _ => simp [World.cell?, hb5]
      go_region_held3 (fun W => W.cell? ⟨T, 0, none⟩ = some (.slice a0 m0 q0) ∧ W.cell? ⟨T, 1, none⟩ = some (.slice a1 m1 q1) ∧ W.cell? ⟨T, 2, none⟩ = some (.slice a2 m2 q2) ∧ W.cell? ⟨T, 3, none⟩ = some (.slice (some p3) l3 l3) ∧ W.cell? ⟨T, 6, none⟩ = some (.slice (some p4) l4 l4) ∧ W.cell? ⟨T, 7, none⟩ = some (.slice a7 m7 q7) ∧ W.cell? ⟨T, 9, none⟩ = some (.slice a9 m9 q9)) (first | (with_reducible exact k2) | (with_reducible exact k1) | (have k2q := k2; with_reducible exact tFar hne k2q) | go_keep)
        (first | (go_at_call_of 38 (Value.slice (some p3) l3 l3); refine (C3.out _ ?_).mono ?_; (exact hlow.drew); rintro e w' ⟨rfl, ho3, hb3, hs3⟩; have k1 := tKeep hb3 ⟨z0, z1, z2, z3, z6, z7, z9⟩; have hlow1 := hlow.drew.trans (hb3.mono (by simp; omega))) | (go_at_call_of 38 (Value.slice (some p4) l4 l4); refine (C4.out _ hlow1).mono ?_; rintro e w'' ⟨rfl, ho4, hb4, hs4⟩; have k2 := tKeep hb4 k1; obtain ⟨hq, hqf⟩ := hBW.out w'' (Below.trans (b := wr.drew) ((Below.refl _ _).drew) (hb3.trans (hb4.mono (by have := hb3.size; simpa using this))))))
      all_goals
        have hb5 : Below wr.heap.size wr w'' := Below.trans (b := wr.drew) ((Below.refl _ _).drew) (hb3.trans (hb4.mono (by have := hb3.size; simpa using this)))
        have HB5 := hide ((hb5.block _ hBlt).trans HB.out)
        have HO3 := hide ho3
        have HO4 := hide ho4
        clear k1 k2 hq hqf ho3 ho4
        go_wp2
        refine finish_tally rfl rfl rfl HB5.out ?_
        intro W hWB ho hsW hbW
        have e3 : w'.heap.size = w.heap.size + 5 := by rw [hs3]; show wr.heap.size + 1 = _; omega
        have e4 : w''.heap.size = w.heap.size + 6 := by omega
        have ho3' : Own Value.string 9 w' (w.heap.size + 4) l3 xs3 := by have := HO3.out; rw [show wr.drew.heap.size = w.heap.size + 4 from hsz] at this; exact this
        have ho4' : Own Value.string 9 w'' (w.heap.size + 5) l4 xs4 := by have := HO4.out; rw [e3] at this; exact this
        have hfl : ∀ {α : Type} (l : List α), l.length = F → l.take F = l := fun l h => List.take_of_length_le (by omega)
        refine ⟨rfl, hbW _ _ (Nat.le_refl _) (hlow.trans (hb5.mono (by omega))), ?_, ?_, ?_, ?_, ?_⟩
        · exact ho3'.of_block ((ho _ (by omega)).trans (hb4.block _ (by omega)))
        · exact ho4'.of_block (ho _ (by omega))
        · have := hM.pres
          rw [hfl ps HP.out] at this
          exact this.of_block ((ho _ (by omega)).trans (hb5.block _ (by omega)))
        · have := hM.eq
          rw [hfl es HE.out] at this
          exact this.of_block ((ho _ (by omega)).trans (hb5.block _ (by omega)))
        · have := hM.ref
          rw [hfl rs HR.out] at this
          exact this.of_block ((ho _ (by omega)).trans (hb5.block _ (by omega)))
end Go.Proofs.Qxb6604777a
