/-
  The walk of layout: the correct and the faulty in rising number, and each place.
-/
import Derived.Test.Qxb6604777aBase
import Derived.Test.Qxb6604777aPlain
namespace Go.Proofs.Qxb6604777a
set_option linter.unusedSimpArgs false
set_option linter.unusedVariables false
open Go.RowKit

theorem make_room (t e : TypeId) (z : Value) (bytes : Nat) (ht : Try.prog.underlying t = some (.slice e)) (hinfo : (Try.prog.info? e).map (fun i => (i.zero, i.size, i.bytes)) = some (some z, 1, bytes)) (hz1 : z.cells = #[z])
    (n : Nat) (hbytes : bytes * n ≤ 281474976710656) (h63 : n ≤ 9223372036854775807) (w : World) :
    (Instr.makeSlice t (.int .i64 0) (.int .i64 (n : Int))).run Try.prog w = .ok (.slice (some ⟨w.heap.size, 0, none⟩) 0 n) (w.alloc (.cells (madeCells #[z] n) e)) := by
  obtain ⟨i, hi, hz, hs, hb⟩ := info_parts hinfo
  have hb' : (i.bytes : Int) * (n : Int) ≤ 281474976710656 := by
    rw [hb]
    have h : ((bytes * n : Nat) : Int) ≤ 281474976710656 := by omega
    rwa [Int.natCast_mul] at h
  have hr := run_make (P := Try.prog) w t e i z ht hi hz .i64 .i64 0 n (by omega) (by omega) hb' (by omega)
  simpa [hs, hz1] using hr

/-- What the walk over the mask knows after k rounds. -/
structure LayAt (B n : Nat) (mask : List Bool) (k : Nat) (w w' : World) : Prop where
  corr : Own (Value.int .i64) 3 w' B n (corrK mask k)
  faul : Own (Value.int .i64) 3 w' (B + 1) n (faulK mask k)
  idx : Own (Value.int .i64) 3 w' (B + 2) n (idxK mask k)
  low : Below B w w'
  size : B + 3 ≤ w'.heap.size

theorem lay_start (B n : Nat) (mask : List Bool) (w : World) (hB : w.heap.size = B) (z : Value) :
    LayAt B n mask 0 w (((w.alloc (.cells (madeCells #[z] n) 3)).alloc (.cells (madeCells #[z] n) 3)).alloc (.cells (madeCells #[z] n) 3)) := by
  subst hB
  refine ⟨?_, ?_, ?_, ?_, ?_⟩
  · exact ((Own.made_none w n 3 z).alloc _).alloc _
  · have := (Own.made_none (f := Value.int .i64) (w.alloc (.cells (madeCells #[z] n) 3)) n 3 z).alloc (.cells (madeCells #[z] n) 3)
    rw [World.size_alloc] at this
    exact this
  · have := Own.made_none (f := Value.int .i64) ((w.alloc (.cells (madeCells #[z] n) 3)).alloc (.cells (madeCells #[z] n) 3)) n 3 z
    rw [World.size_alloc, World.size_alloc] at this
    exact this
  · exact (((Below.refl _ _).alloc (Nat.le_refl _) _).alloc (by simp) _).alloc (by simp; omega) _
  · simp

/-- A round on a faulty one: the place is stored, the number appended to the faulty. -/
theorem lay_faulty {B n : Nat} {mask : List Bool} {k : Nat} {w wr w1 : World} (h : LayAt B n mask k w wr) (hB : B = w.heap.size) (hk : k < n) (hn : mask.length = n) (hm : mask[k]'(by omega) = true) (o : Obj)
    (hown : w1.ownsRow B 3 1 (.slice (some ⟨B + 1, 0, none⟩) ((faulK mask k).length + 1) n) ((faulK mask k).length + 1) ((faulK mask k ++ [(k : Int) + 1]).map (Value.int .i64)))
    (hg : ((wr.setCell ⟨B + 2, k, none⟩ (.int .i64 ((faulK mask k).length : Int))).alloc o).grownBy w1 (some (B + 1))) : LayAt B n mask (k + 1) w w1 := by
  have hs := h.size
  have hkm : mask.getD k false = true := by rw [getD_bool mask k (by omega)]; exact hm
  have hpl : (place mask k : Int) = ((faulK mask k).length : Int) := by
    rw [faulK_length mask k (by omega), place, hkm, if_pos rfl]
  have hlen : (idxK mask k).length = k := idxK_length mask k
  refine ⟨?_, ?_, ?_, ?_, ?_⟩
  · rw [corrK_succ, hkm, if_pos rfl, List.append_nil]
    exact ((h.corr.other (by simp) _).alloc o).of_block (hg.block B (by simp; omega) (by simp))
  · rw [faulK_succ, hkm, if_pos rfl]
    exact (Own.of_ownsRow hown).1
  · rw [idxK_succ, hpl]
    have hp := h.idx.push (by rw [hlen]; exact hk) (((faulK mask k).length : Int))
    rw [hlen] at hp
    exact (hp.alloc o).of_block (hg.block (B + 2) (by simp; omega) (by simp))
  · have h1 := (h.low.setCell (p := ⟨B + 2, k, none⟩) (by simp) (.int .i64 ((faulK mask k).length : Int))).alloc (by simp; omega) o
    exact h1.grown hg (by simp; omega) (fun k hk => by cases hk; omega)
  · have := hg.size
    simp at this
    omega

theorem lay_correct {B n : Nat} {mask : List Bool} {k : Nat} {w wr w1 : World} (h : LayAt B n mask k w wr) (hB : B = w.heap.size) (hk : k < n) (hn : mask.length = n) (hm : mask[k]'(by omega) = false) (o : Obj)
    (hown : w1.ownsRow B 3 1 (.slice (some ⟨B, 0, none⟩) ((corrK mask k).length + 1) n) ((corrK mask k).length + 1) ((corrK mask k ++ [(k : Int) + 1]).map (Value.int .i64)))
    (hg : ((wr.setCell ⟨B + 2, k, none⟩ (.int .i64 ((corrK mask k).length : Int))).alloc o).grownBy w1 (some B)) : LayAt B n mask (k + 1) w w1 := by
  have hs := h.size
  have hkm : mask.getD k false = false := by rw [getD_bool mask k (by omega)]; exact hm
  have hpl : (place mask k : Int) = ((corrK mask k).length : Int) := by
    rw [corrK_length mask k (by omega), place, hkm, if_neg (by decide)]
  have hlen : (idxK mask k).length = k := idxK_length mask k
  refine ⟨?_, ?_, ?_, ?_, ?_⟩
  · rw [corrK_succ, hkm, if_neg (by decide)]
    exact (Own.of_ownsRow hown).1
  · rw [faulK_succ, hkm, if_neg (by decide), List.append_nil]
    exact ((h.faul.other (by simp) _).alloc o).of_block (hg.block (B + 1) (by simp; omega) (by simp))
  · rw [idxK_succ, hpl]
    have hp := h.idx.push (by rw [hlen]; exact hk) (((corrK mask k).length : Int))
    rw [hlen] at hp
    exact (hp.alloc o).of_block (hg.block (B + 2) (by simp; omega) (by simp))
  · have h1 := (h.low.setCell (p := ⟨B + 2, k, none⟩) (by simp) (.int .i64 ((corrK mask k).length : Int))).alloc (by simp; omega) o
    exact h1.grown hg (by simp; omega) (fun k hk => by cases hk; omega)
  · have := hg.size
    simp at this
    omega

set_option maxHeartbeats 2000000 in
theorem layout_any (a : Option Addr) (n cap : Nat) (mask : List Bool) (w : World) (hl : n ≤ 65536) (hn : mask.length = n) (hr : Reads Value.bool w a mask) :
    Calls Try.prog 10 #[.slice a n cap] w fun e w' => e = .returned (.tuple #[.slice (some ⟨w.heap.size, 0, none⟩) (cF mask) n, .slice (some ⟨w.heap.size + 1, 0, none⟩) (cT mask) n, .slice (some ⟨w.heap.size + 2, 0, none⟩) n n]) ∧ LayAt w.heap.size n mask n w w' := by
  have HN : Hid (mask.length = n) := hn
  clear hn
  have hm0 := make_room 27 3 (.int .i64 0) 8 Try.underlying27 info3 rfl n (by omega) (by omega)
  have hmk := run_make_row' (P := Try.prog) 27 3 (.int .i64 0) 8 Try.underlying27 info3 rfl .i64 .i64 n (by omega) (by omega)
  obtain ⟨i0, hi, hz0, hz1, hz2⟩ := info_parts info3
  go_enter Try.func10, Try.ntmps10
  go_wp2
  clear hm0 hmk
  go_loopw [5, 6, 8] (fun v5 v6 v8 wr => ∃ k : Nat, k ≤ n ∧ v8 = .int .i64 (k + 1) ∧ v5 = .slice (some ⟨w.heap.size, 0, none⟩) (corrK mask k).length n ∧ v6 = .slice (some ⟨w.heap.size + 1, 0, none⟩) (faulK mask k).length n ∧ LayAt w.heap.size n mask k w wr) (fun _ _ v8 _ => n + 1 - (intOf v8).toNat)
  case atStart => exact ⟨0, Nat.zero_le _, by go_num, rfl, rfl, lay_start _ n mask w rfl _⟩
  case round =>
    obtain ⟨k, hk, rfl, rfl, rfl, hL⟩ := hrel
    have hcl : (corrK mask k).length ≤ k := by have := HN.out; rw [corrK_length mask k (by omega)]; have := cF_le (mask.take k); rw [List.length_take] at this; omega
    have hfl : (faulK mask k).length ≤ k := by have := HN.out; rw [faulK_length mask k (by omega)]; have := cT_le (mask.take k); rw [List.length_take] at this; omega
    by_cases hlt : k < n
    · have hkx : k < mask.length := by have := HN.out; omega
      obtain ⟨b, o, hp, hc0⟩ := hr k hkx
      cases hp
      have hc : wr.cell? ⟨b, o + k, none⟩ = some (.bool mask[k]) := (hL.low.cell (lt_of_cell hc0)).trans hc0
      have hbw : b < w.heap.size := lt_of_cell hc0
      obtain ⟨v0, hv0⟩ := hL.idx.there hlt
      have hfz := hL.idx.frozen k
      have hsz := hL.size
      clear hc0
      by_cases hm : mask[k] = true
      · have HM : Hid (mask[k] = true) := hm
        rw [hm] at hc
        clear hm
        have hown := ((hL.faul.other (p := ⟨w.heap.size + 2, k, none⟩) (by simp) (.int .i64 ((faulK mask k).length : Int))).alloc (.cells #[.int .i64 ((k : Int) + 1)] 3)).ownsRow (base := w.heap.size) (by omega) (by unfold maxLen; omega)
        go_wp2_with (first | (at_builtin; refine wpList_append_fits _ rfl _ _ 27 rfl w.heap.size 3 i0 1 Try.underlying27 hi hz1 (w.heap.size + 1) (faulK mask k).length n _ (by rfl) hown ⟨wr.heap.size, 0, none⟩ 1 1 [.int .i64 ((k : Int) + 1)] (by rfl) rfl ?c1 ?c2 ?c3 ?_))
        case c1 => exact news_one _ _ _ _ (by simp)
        case c2 => exact one_oneCell _ rfl
        case c3 => omega
        · intro w1 hown1 hg1
          have hL' := lay_faulty (w1 := w1) hL rfl hlt HN.out HM.out _ (by rw [List.map_append]; exact hown1) hg1
          clear hown hown1 hg1 hv0 hfz hc hL
          have e1 : (faulK mask (k + 1)).length = (faulK mask k).length + 1 := by rw [faulK_succ, getD_bool mask k hkx, HM.out]; simp
          have e2 : (corrK mask (k + 1)).length = (corrK mask k).length := by rw [corrK_succ, getD_bool mask k hkx, HM.out]; simp
          have E1 : Hid ((faulK mask (k + 1)).length = (faulK mask k).length + 1) := e1
          have E2 : Hid ((corrK mask (k + 1)).length = (corrK mask k).length) := e2
          clear e1 e2
          go_wp2
          go_roundw
          case rel => exact ⟨k + 1, by omega, by go_num, by rw [E2.out], by rw [E1.out], hL'⟩
          case measure => simp [intOf]; omega
      · have hm' : mask[k] = false := by simpa using hm
        have HM : Hid (mask[k] = false) := hm'
        rw [hm'] at hc
        clear hm hm'
        have hown := ((hL.corr.other (p := ⟨w.heap.size + 2, k, none⟩) (by simp) (.int .i64 ((corrK mask k).length : Int))).alloc (.cells #[.int .i64 ((k : Int) + 1)] 3)).ownsRow (base := w.heap.size) (by omega) (by unfold maxLen; omega)
        go_wp2_with (first | (at_builtin; refine wpList_append_fits _ rfl _ _ 27 rfl w.heap.size 3 i0 1 Try.underlying27 hi hz1 w.heap.size (corrK mask k).length n _ (by rfl) hown ⟨wr.heap.size, 0, none⟩ 1 1 [.int .i64 ((k : Int) + 1)] (by rfl) rfl ?d1 ?d2 ?d3 ?_))
        case d1 => exact news_one _ _ _ _ (by simp)
        case d2 => exact one_oneCell _ rfl
        case d3 => omega
        · intro w1 hown1 hg1
          have hL' := lay_correct (w1 := w1) hL rfl hlt HN.out HM.out _ (by rw [List.map_append]; exact hown1) hg1
          clear hown hown1 hg1 hv0 hfz hc hL
          have e1 : (faulK mask (k + 1)).length = (faulK mask k).length := by rw [faulK_succ, getD_bool mask k hkx, HM.out]; simp
          have e2 : (corrK mask (k + 1)).length = (corrK mask k).length + 1 := by rw [corrK_succ, getD_bool mask k hkx, HM.out]; simp
          have E1 : Hid ((faulK mask (k + 1)).length = (faulK mask k).length) := e1
          have E2 : Hid ((corrK mask (k + 1)).length = (corrK mask k).length + 1) := e2
          clear e1 e2
          go_wp2
          go_roundw
          case rel => exact ⟨k + 1, by omega, by go_num, by rw [E2.out], by rw [E1.out], hL'⟩
          case measure => simp [intOf]; omega
    · obtain rfl : k = n := by omega
      go_wp2
      go_ret3
      have hn := HN.out
      refine ⟨?_, hL⟩
      have e1 : (corrK mask k).length = cF mask := by rw [corrK_length mask k (by omega), List.take_of_length_le (by omega)]
      have e2 : (faulK mask k).length = cT mask := by rw [faulK_length mask k (by omega), List.take_of_length_le (by omega)]
      rw [← e1, ← e2]
      rfl
end Go.Proofs.Qxb6604777a
