/-
  The walk of zzModelList.
-/
import Derived.Test.Qxb6604780aFreps
namespace Go.Proofs.Qxb6604780a
set_option linter.unusedSimpArgs false
set_option linter.unusedVariables false
open Go.RowKit

theorem keyOf_true (dc : List Int) : keyOf dc true = dcAt dc := by
  funext x
  simp [keyOf]
theorem keyOf_false (dc : List Int) : keyOf dc false = id := by
  funext x
  simp [keyOf]
theorem repsFrom_mem (key : Int → Int) (ok : Int → Bool) : ∀ (xs seen : List Int) (x : Int), x ∈ repsFrom key ok seen xs → x ∈ xs
  | [], seen, x, h => by simp [repsFrom] at h
  | y :: ys, seen, x, h => by
    rw [repsFrom] at h
    split at h
    · rcases List.mem_cons.1 h with h | h
      · rw [h]; exact List.mem_cons_self ..
      · exact List.mem_cons_of_mem _ (repsFrom_mem key ok ys _ x h)
    · exact List.mem_cons_of_mem _ (repsFrom_mem key ok ys _ x h)
theorem rot_mem {xs : List Int} {k : Nat} {x : Int} (h : x ∈ rot xs k) : x ∈ xs := by
  unfold rot at h
  rcases List.mem_append.1 h with h | h
  · exact List.mem_of_mem_drop h
  · exact List.mem_of_mem_take h
theorem AllIn.natM {xs : List Int} {m : Nat} (h : AllIn xs (m : Int)) {x : Int} (hx : x ∈ xs) : ∃ k : Nat, x = (k : Int) ∧ k < m := by
  obtain ⟨j, hj, rfl⟩ := List.getElem_of_mem hx
  obtain ⟨h0, h1⟩ := h j hj
  exact ⟨xs[j].toNat, by omega, by omega⟩
theorem AllIn.natD {xs : List Int} {m : Nat} (h : AllIn xs (m : Int)) {j : Nat} (hj : j < xs.length) : ∃ x : Nat, xs.getD j 0 = (x : Int) ∧ x < m := by
  obtain ⟨h0, h1⟩ := h j hj
  refine ⟨xs[j].toNat, ?_, by omega⟩
  rw [List.getD_eq_getElem?_getD, List.getElem?_eq_getElem hj]
  simp; omega

theorem ownsRow_keep {w w' : World} {base : Nat} {e : TypeId} {size : Nat} {v : Value} {n : Nat} {xs : List Value} (h : w.ownsRow base e size v n xs) (hb : ∀ g, v.ownBlock = some g → w'.heap[g]? = w.heap[g]?) : w'.ownsRow base e size v n xs := by
  obtain ⟨hl, h⟩ := h
  refine ⟨hl, ?_⟩
  rcases h with h | ⟨g, cap, cur, rfl, hbase, hg, rest⟩
  · exact .inl h
  · exact .inr ⟨g, cap, cur, rfl, hbase, (hb g rfl).trans hg, rest⟩

/-- What zzModelList carries: the list so far, its flags, the nodes that are walked. -/
structure OutAt (w wr : World) (B ib N : Nat) (v : Value) (o : List Int) (aR : Option Addr) (R : List Int) : Prop where
  row : wr.ownsRow B 3 1 v o.length (o.map (Value.int .i64))
  flags : Own Value.bool 4 wr ib N (flagsOf N o)
  below : Below w.heap.size w wr
  reps : Reads (Value.int .i64) wr aR R
  apart : ∀ p, aR = some p → v.ownBlock ≠ some p.block ∧ p.block < wr.heap.size
  ibB : ib < B
  ibW : w.heap.size ≤ ib
  Bwr : B ≤ wr.heap.size
theorem OutAt.form {w wr : World} {B ib N : Nat} {v : Value} {o : List Int} {aR : Option Addr} {R : List Int} (h : OutAt w wr B ib N v o aR R) : ∃ a cap, v = .slice a o.length cap := by
  rcases h.row.2 with ⟨hv, hn⟩ | ⟨g, cap, cur, hv, _⟩
  · exact ⟨none, 0, by rw [hv, hn]⟩
  · exact ⟨_, cap, hv⟩
theorem OutAt.push {w wr : World} {B ib N : Nat} {v : Value} {o : List Int} {aR : Option Addr} {R : List Int} (h : OutAt w wr B ib N v o aR R) (x : Nat) (hx : x < N) {ob : Obj} {w1 : World} {g cap : Nat}
    (hown : w1.ownsRow B 3 1 (.slice (some ⟨g, 0, none⟩) (o.length + 1) cap) (o.length + 1) (o.map (Value.int .i64) ++ [.int .i64 (x : Int)]))
    (hgrow : ((wr.setCell ⟨ib, x, none⟩ (.bool true)).alloc ob).grownBy w1 v.ownBlock) (hat : v.ownBlock = some g ∨ g = wr.heap.size + 1) : OutAt w w1 B ib N (.slice (some ⟨g, 0, none⟩) (o.length + 1) cap) (o ++ [(x : Int)]) aR R := by
  have hib := h.ibB
  have hiw := h.ibW
  have hBw := h.Bwr
  have hsz : ((wr.setCell ⟨ib, x, none⟩ (.bool true)).alloc ob).heap.size = wr.heap.size + 1 := by simp
  have hs1 := hgrow.size
  rw [hsz] at hs1
  have kp : ∀ q, q < wr.heap.size → v.ownBlock ≠ some q → q ≠ ib → w1.heap[q]? = wr.heap[q]? := fun q hq hn hi => by
    rw [hgrow.block q (by omega) (fun e => hn e.symm), Below.heap_alloc _ _ _ (by simpa using hq)]
    exact Below.heap_setCell _ _ _ _ hi
  have hvb : ∀ q, v.ownBlock = some q → B ≤ q := fun q hq => (h.row.lt q hq).1
  refine { row := ?_, flags := ?_, below := ?_, reps := ?_, apart := ?_, ibB := hib, ibW := hiw, Bwr := by omega }
  · rw [List.length_append, List.length_singleton, List.map_append]
    exact hown
  · rw [← flagsOf_set N _ x hx]
    refine (h.flags.set x true).of_block ?_
    rw [hgrow.block ib (by omega) (fun e => by have := hvb ib e.symm; omega), Below.heap_alloc _ _ _ (by simp; omega)]
  · have a1 := (h.below.setCell (p := ⟨ib, x, none⟩) hiw (.bool true)).alloc (by have := h.below.size; simp; omega) ob
    exact a1.trans ⟨hgrow.os, hgrow.tape, hgrow.output, hgrow.size, fun q hq => hgrow.block q (by have := h.below.size; omega) (fun e => by have := hvb q e.symm; omega)⟩
  · intro i hi
    obtain ⟨b, of', e, hc⟩ := h.reps i hi
    refine ⟨b, of', e, ?_⟩
    obtain ⟨p1, p2⟩ := h.apart _ e
    by_cases hbi : b = ib
    · exfalso
      have := h.flags
      subst hbi
      obtain ⟨c, hb, hs, hl, hcc⟩ := this
      simp [World.cell?, hb] at hc
      by_cases hin : of' + i < N
      · rw [hcc (of' + i) (by rw [flagsOf_length]; exact hin)] at hc
        cases hc
      · rw [Array.getElem?_eq_none (by omega)] at hc
        cases hc
    · rw [← hc]
      exact World.cell?_of_block (kp b p2 p1 hbi)
  · intro p hp
    obtain ⟨p1, p2⟩ := h.apart p hp
    refine ⟨?_, by omega⟩
    intro e
    have e' : g = p.block := by simpa [Value.ownBlock] using e
    rcases hat with hat | hat
    · exact p1 (by rw [hat, e'])
    · omega
theorem OutAt.drop {w wr : World} {B ib N : Nat} {v : Value} {o : List Int} {aR : Option Addr} {R : List Int} (h : OutAt w wr B ib N v o aR R) : OutAt w wr B ib N v o none [] := { h with reps := fun i hi => by simp at hi, apart := fun p hp => by cases hp }
/-- Other nodes are walked now. -/
theorem OutAt.walk {w wr w' : World} {B ib N : Nat} {v : Value} {o : List Int} {aR aR' : Option Addr} {R R' : List Int} (h : OutAt w wr B ib N v o aR R) (hb : Below wr.heap.size wr w') (hr : Reads (Value.int .i64) w' aR' R') (hp : ∀ p, aR' = some p → wr.heap.size ≤ p.block ∧ p.block < w'.heap.size) : OutAt w w' B ib N v o aR' R' where
  row := ownsRow_keep h.row fun g hg => hb.block g (h.row.lt g hg).2
  flags := h.flags.keep hb
  below := h.below.trans (hb.mono h.below.size)
  reps := hr
  apart := fun p e => ⟨fun e2 => by have := (h.row.lt _ e2).2; have := (hp p e).1; omega, (hp p e).2⟩
  ibB := h.ibB
  ibW := h.ibW
  Bwr := Nat.le_trans h.Bwr hb.size

set_option maxRecDepth 100000 in
set_option maxHeartbeats 4000000 in
theorem modelList_any (bd N M : Nat) (dc pts pks ofs : List Int) (a2 a3 a5 : Option Addr) (L2 c2 L3 c3 n5 c5 : Nat) (pf : Bool) (sDC pick n count D : Int) (wk : Nat) (w : World)
    (hdc : Reads (Value.int .i64) w (some ⟨bd, 0, none⟩) dc) (hdl : dc.length = N) (hdIn : AllIn dc M) (hx2 : Reads (Value.int .i64) w a2 pts) (hl2 : pts.length = L2) (h2In : AllIn pts N) (hx3 : Reads (Value.int .i64) w a3 pks) (hl3 : pks.length = L3) (h3In : AllIn pks N) (h5 : Reads (Value.int .u8) w a5 ofs) (h5l : ofs.length = n5) (h5n : a5 ≠ none → n5 = N) (h50 : a5 = none → n5 = 0)
    (hwk : wk < L2) (hpk : 0 < L3 → 0 ≤ pick ∧ pick < L3) (lN : N ≤ 32768) (lM : M ≤ 65536) (l2 : L2 ≤ 32768) (l3 : L3 ≤ 32768) (hD : D = if a5.isSome = true then sDC else (M : Int)) :
    Calls Try.prog 14 #[.slice (some ⟨bd, 0, none⟩) N N, .int .i64 (M : Int), .slice a2 L2 c2, .slice a3 L3 c3, .bool pf, .slice a5 n5 c5, .int .i64 sDC, .int .i64 (wk : Int), .int .i64 pick, .int .i64 n, .int .i64 count] w fun e w' =>
      RowOut w w' e (modelL dc pts pks ofs (a3.isSome && decide (1 < D)) pf D n count wk pick.toNat) := by
  obtain ⟨up, hup⟩ : ∃ up, up = (a3.isSome && decide (1 < D)) := ⟨_, rfl⟩
  obtain ⟨p1, hp1⟩ : ∃ p1, p1 = (pf && up && decide (D < n)) := ⟨_, rfl⟩
  rw [← hup]
  obtain ⟨RP, hRP⟩ : ∃ RP, RP = repsFrom (dcAt dc) (okOf ofs) [] (rot pts wk) := ⟨_, rfl⟩
  obtain ⟨RK, hRK⟩ : ∃ RK, RK = repsFrom (dcAt dc) (okOf ofs) [] (rot pks pick.toNat) := ⟨_, rfl⟩
  obtain ⟨RN, hRN⟩ : ∃ RN, RN = repsFrom id (okOf ofs) [] (rot pts wk) := ⟨_, rfl⟩
  obtain ⟨O1, hO1⟩ : ∃ O1, O1 = if p1 = true then loopB (stop1 D) act1 RP [] else [] := ⟨_, rfl⟩
  obtain ⟨O2, hO2⟩ : ∃ O2, O2 = if up = true then (loopB (stop2 n D) act2 RK (O1, 0)).1 else O1 := ⟨_, rfl⟩
  obtain ⟨FIN, hFIN⟩ : ∃ FIN, FIN = loopB (stop1 count) act3 RN O2 := ⟨_, rfl⟩
  have eF : modelL dc pts pks ofs up pf D n count wk pick.toNat = FIN := by
    have e1 : (if pf = true ∧ up = true ∧ D < n then loopB (stop1 D) act1 RP [] else []) = O1 := by
      rw [hO1, hp1]
      by_cases h : pf = true ∧ up = true ∧ D < n
      · rw [if_pos h, if_pos (by simp [h])]
      · rw [if_neg h, if_neg (by simpa [Bool.and_assoc] using h)]
    unfold modelL
    rw [← hRP, ← hRK, ← hRN, e1, ← hO2, ← hFIN]
  rw [eF]
  have C31 : Hid (∀ (W : World), Below w.heap.size w W → Calls Try.prog 31 #[.slice a2 L2 c2, .int .i64 (wk : Int), .slice (some ⟨bd, 0, none⟩) N N, .int .i64 (M : Int), .bool true, .slice a5 n5 c5] W fun e w' => RowOut W w' e RP) := by
    intro W hW
    have := firstReps_any a2 L2 c2 pts wk bd N dc M true a5 n5 c5 ofs W hl2 (hx2.keep hW) (fun _ => by omega) (hdc.keep hW) hdl (fun i hi => by
      obtain ⟨x, hx, hxN⟩ := h2In.natD (j := i) (by rw [hl2]; exact hi)
      obtain ⟨d, hd, hdM⟩ := hdIn.natD (j := x) (by rw [hdl]; exact hxN)
      exact ⟨x, hx, hxN, d, by rw [keyOf_true]; exact hd, hdM⟩) (h5.keep hW) h5l h5n h50 l2 lN lM
    rw [keyOf_true, Int.toNat_natCast, ← hRP] at this
    exact this
  have C31K : Hid (∀ (W : World), Below w.heap.size w W → Calls Try.prog 31 #[.slice a3 L3 c3, .int .i64 pick, .slice (some ⟨bd, 0, none⟩) N N, .int .i64 (M : Int), .bool true, .slice a5 n5 c5] W fun e w' => RowOut W w' e RK) := by
    intro W hW
    have := firstReps_any a3 L3 c3 pks pick bd N dc M true a5 n5 c5 ofs W hl3 (hx3.keep hW) hpk (hdc.keep hW) hdl (fun i hi => by
      obtain ⟨x, hx, hxN⟩ := h3In.natD (j := i) (by rw [hl3]; exact hi)
      obtain ⟨d, hd, hdM⟩ := hdIn.natD (j := x) (by rw [hdl]; exact hxN)
      exact ⟨x, hx, hxN, d, by rw [keyOf_true]; exact hd, hdM⟩) (h5.keep hW) h5l h5n h50 l3 lN lM
    rw [keyOf_true, ← hRK] at this
    exact this
  have C31N : Hid (∀ (W : World), Below w.heap.size w W → Calls Try.prog 31 #[.slice a2 L2 c2, .int .i64 (wk : Int), .slice (some ⟨bd, 0, none⟩) N N, .int .i64 (N : Int), .bool false, .slice a5 n5 c5] W fun e w' => RowOut W w' e RN) := by
    intro W hW
    have := firstReps_any a2 L2 c2 pts wk bd N dc N false a5 n5 c5 ofs W hl2 (hx2.keep hW) (fun _ => by omega) (hdc.keep hW) hdl (fun i hi => by
      obtain ⟨x, hx, hxN⟩ := h2In.natD (j := i) (by rw [hl2]; exact hi)
      exact ⟨x, hx, hxN, x, by rw [keyOf_false]; rfl, hxN⟩) (h5.keep hW) h5l h5n h50 l2 lN (by omega)
    rw [keyOf_false, Int.toNat_natCast, ← hRN] at this
    exact this
  have MP : Hid (∀ x ∈ RP, ∃ k : Nat, x = (k : Int) ∧ k < N) := fun x hx => h2In.natM (rot_mem (repsFrom_mem _ _ _ _ _ (by rw [hRP] at hx; exact hx)))
  have MK : Hid (∀ x ∈ RK, ∃ k : Nat, x = (k : Int) ∧ k < N) := fun x hx => h3In.natM (rot_mem (repsFrom_mem _ _ _ _ _ (by rw [hRK] at hx; exact hx)))
  have MN : Hid (∀ x ∈ RN, ∃ k : Nat, x = (k : Int) ∧ k < N) := fun x hx => h2In.natM (rot_mem (repsFrom_mem _ _ _ _ _ (by rw [hRN] at hx; exact hx)))
  have LP : RP.length ≤ 32768 := by
    have := repsFrom_le (dcAt dc) (okOf ofs) (rot pts wk) []
    rw [← hRP, rot_length pts wk (by omega)] at this
    omega
  have LK : RK.length ≤ 32768 := by
    have := repsFrom_le (dcAt dc) (okOf ofs) (rot pks pick.toNat) []
    rw [← hRK] at this
    unfold rot at this
    rw [List.length_append, List.length_drop, List.length_take] at this
    omega
  have LN : RN.length ≤ 32768 := by
    have := repsFrom_le id (okOf ofs) (rot pts wk) []
    rw [← hRN, rot_length pts wk (by omega)] at this
    omega
  have HUP := hide hup
  have HP1 := hide hp1
  have HO1 := hide hO1
  have HO2 := hide hO2
  have HFN := hide hFIN
  have HD := hide hD
  obtain ⟨i0, hi0, hz0, hz1, hz2⟩ := info_parts info3
  have hmkN := run_make_row' (P := Try.prog) 30 4 (.bool false) 1 Try.underlying30 info4 rfl .i64 .i64 N (by omega) (by omega)
  clear hdc hdl hdIn hx2 hl2 h2In hx3 hl3 h3In h5 h5l h5n h50 hwk hpk hup hp1 hRP hRK hRN hO1 hO2 hFIN eF hD
  go_enter Try.func14, Try.ntmps14
  go_upto_if 39 with fail
  go_cut [23] from 38 to 40 (fun s23 wc => s23 = .int .i64 D ∧ wc = w)
  case first =>
    cases ha : a5 with
    | none =>
      have e := HD.out
      rw [ha] at e
      have HE := hide e
      clear HD e
      subst ha
      have hcmp : ∀ W, (binOp .neq 23 (.slice none n5 c5) (.slice none 0 0)).run Try.prog W = .ok (.bool false) W := fun W => ne_nil_none Try.underlying23 n5 c5 W
      go_wp2_with fail
      go_meet
      case rel => exact ⟨by rw [HE.out]; rfl, rfl⟩
    | some p =>
      have e := HD.out
      rw [ha] at e
      have HE := hide e
      clear HD e
      subst ha
      have hcmp : ∀ W, (binOp .neq 23 (.slice (some p) n5 c5) (.slice none 0 0)).run Try.prog W = .ok (.bool true) W := fun W => ne_nil_some Try.underlying23 p n5 c5 W
      go_wp2_with fail
      go_meet
      case rel => exact ⟨by rw [HE.out]; rfl, rfl⟩
  case rest =>
  obtain ⟨rfl, rfl⟩ := hcut
  go_upto_region 4 with fail
  go_cut [24] from 41 to 46 (fun s24 w5 => s24 = .bool up ∧ w5 = wc)
  case first =>
    cases ha : a3 with
    | none =>
      subst ha
      have hcmp : ∀ W, (binOp .neq 22 (.slice none L3 c3) (.slice none 0 0)).run Try.prog W = .ok (.bool false) W := fun W => ne_nil_none Try.underlying22 L3 c3 W
      go_wp2_with fail
      go_meet
      case rel => exact ⟨by rw [HUP.out]; rfl, rfl⟩
    | some p =>
      subst ha
      have hcmp : ∀ W, (binOp .neq 22 (.slice (some p) L3 c3) (.slice none 0 0)).run Try.prog W = .ok (.bool true) W := fun W => ne_nil_some Try.underlying22 p L3 c3 W
      go_wp2_with fail
      go_meet
      case rel => exact ⟨by rw [HUP.out]; rfl, rfl⟩
  case rest =>
  obtain ⟨rfl, rfl⟩ := hcut
  obtain ⟨w, rfl⟩ : ∃ w, w = wc := ⟨_, rfl⟩
  obtain ⟨ib, hib⟩ : ∃ ib, ib = w.heap.size := ⟨_, rfl⟩
  obtain ⟨B, hB⟩ : ∃ B, B = w.heap.size + 1 := ⟨_, rfl⟩
  have HO0 : Hid (OutAt w (w.alloc (.cells (madeCells #[.bool false] N) 4)) B ib N (.slice none 0 0) [] none []) := by
    rw [hib, hB]
    exact { row := World.ownsRow_nil _ _ _ _, flags := by rw [flagsOf_nil]; exact Own.made _ _ _ _ _ rfl, below := (Below.refl _ _).alloc (Nat.le_refl _) _, reps := fun i hi => by simp at hi, apart := fun p hp => (by cases hp), ibB := Nat.lt_succ_self _, ibW := Nat.le_refl _, Bwr := by simp }
  go_upto_region 7 with fail
  rw [← hib]
  obtain ⟨w1, hw1⟩ : ∃ w1, w1 = w.alloc (.cells (madeCells #[.bool false] N) 4) := ⟨_, rfl⟩
  rw [← hw1] at HO0 ⊢
  have HIB := hide hib
  have HBB := hide hB
  clear hw1 hmkN hib hB
  go_cut [58] from 50 to 58 (fun s58 w5 => s58 = .bool p1 ∧ w5 = w1)
  case first =>
    cases pf
    · go_wp2_with fail
      go_meet
      case rel => exact ⟨by rw [HP1.out]; rfl, rfl⟩
    · cases up
      · go_wp2_with fail
        go_meet
        case rel => exact ⟨by rw [HP1.out]; rfl, rfl⟩
      · go_wp2_with fail
        go_meet
        case rel => exact ⟨by rw [HP1.out]; simp, rfl⟩
  case rest =>
  obtain ⟨rfl, rfl⟩ := hcut
  obtain ⟨w1, rfl⟩ : ∃ w1, w1 = wc := ⟨_, rfl⟩
  go_upto_if 58 with fail
  go_cut [26] from 59 to 87 (fun s26 w5 => O1.length ≤ 32768 ∧ OutAt w w5 B ib N s26 O1 none [])
  case first =>
    cases p1
    · have e1 : Hid (O1 = []) := HO1.out
      go_wp2_with fail
      go_meet
      case rel => rw [e1.out]; exact ⟨by simp, HO0.out⟩
    · have e1 : Hid (O1 = loopB (stop1 D) act1 RP []) := HO1.out
      go_wp2_with fail
      refine (C31.out w1 HO0.out.below).mono ?_
      rintro e w2 ⟨aR, capR, rfl, hrR, hbR, hpR⟩
      have HOR := hide (HO0.out.walk hbR hrR hpR)
      obtain ⟨R, hR⟩ : ∃ R, R = RP := ⟨_, rfl⟩
      rw [← hR] at HOR e1 MP ⊢
      have HRM := hide MP.out
      obtain ⟨RL, hRL⟩ : ∃ RL, RL = R.length := ⟨_, rfl⟩
      have lRL : RL ≤ 32768 := by rw [hRL, hR]; exact LP
      rw [← hRL]
      have HRL := hide hRL
      have HO1E := hide e1.out
      clear hrR hbR hpR hRL hR HO0 C31 C31K C31N HO1 e1 MP
      go_wp2_with fail
      go_loopw [26, 28, 29] (fun v i x wr => ∃ (k : Nat) (o : List Int), k ≤ RL ∧ i = .int .i64 k ∧ o.length ≤ k ∧ Hid (OutAt w wr B ib N v o aR R) ∧ Hid (loopB (stop1 D) act1 (R.drop k) o = O1)) (fun v i x _ => RL - (intOf i).toNat)
      case atStart => exact ⟨0, [], Nat.zero_le _, rfl, Nat.le_refl _, HOR, by rw [List.drop_zero]; exact HO1E.out.symm⟩
      case round =>
        obtain ⟨k, o, hk, rfl, hol, HO, HE⟩ := hrel
        obtain ⟨va, vcap, rfl⟩ := HO.out.form
        by_cases hlt : k < RL
        case neg =>
          obtain rfl : k = RL := by omega
          go_wp2_with fail
          go_meet
          case rel =>
            have e2 := HE.out
            rw [List.drop_of_length_le (by rw [HRL.out]; exact Nat.le_refl _), loopB] at e2
            rw [← e2]
            exact ⟨by omega, HO.out.drop⟩
        have hltI : (k : Int) < (RL : Int) := by omega
        by_cases hcd : (o.length : Int) < D
        case neg =>
          go_wp2_with fail
          go_meet
          case rel =>
            have e2 := HE.out
            rw [loopB_stop _ _ (by simp [stop1]; omega)] at e2
            rw [← e2]
            exact ⟨by omega, HO.out.drop⟩
        have hkl : k < R.length := by rw [← HRL.out]; exact hlt
        obtain ⟨x, hx, hxN⟩ : ∃ x : Nat, R[k] = (x : Int) ∧ x < N := HRM.out _ (List.getElem_mem hkl)
        obtain ⟨b, of', ea, cx⟩ := HO.out.reps k hkl
        rw [hx] at cx
        subst ea
        have HDR : Hid (R.drop k = (x : Int) :: R.drop (k + 1)) := by
          rw [List.drop_eq_getElem_cons hkl, hx]
          exact rfl
        have hxI : (x : Int) < (N : Int) := by omega
        obtain ⟨uf, huf⟩ := HO.out.flags.there hxN
        have ff := HO.out.flags.frozen x
        have HRW : Hid ((wr.setCell ⟨ib, x, none⟩ (.bool true)).ownsRow B 3 1 (.slice va o.length vcap) o.length (o.map (Value.int .i64))) :=
          ownsRow_keep HO.out.row fun g hg => Below.heap_setCell _ _ _ _ (by show g ≠ ib; have := (HO.out.row.lt g hg).1; have := HO.out.ibB; omega)
        have HBW : Hid (B ≤ wr.heap.size) := HO.out.Bwr

        have HE2 : Hid (loopB (stop1 D) act1 (R.drop (k + 1)) (o ++ [(x : Int)]) = O1) := by
          have e2 := HE.out
          rw [HDR.out, loopB, if_neg (by simp [stop1]; omega)] at e2
          exact e2
        clear hx
        go_wp2_with (at_builtin; refine wpList_append_lies _ rfl _ _ _ rfl B 3 i0 _ 1 8 Try.underlying22 hi0 hz0 hz1 hz2 rfl (by omega) (.slice va o.length vcap) o.length (o.map (Value.int .i64)) rfl (HRW.out.alloc _) _ 1 1 [.int .i64 (x : Int)] rfl rfl (news_one _ _ _ _ (by first | rfl | simp)) (one_oneCell _ rfl) (by omega) (by unfold maxLen; omega) (by omega) (by have := HBW.out; simp; omega) (wr.heap.size + 1) (by simp) ?_)
        intro g cap w6 hown hgrow hat hlt6
        have HP := hide (HO.out.push x hxN hown hgrow (by simpa using hat))
        clear hown hgrow hat hlt6
        go_wp2_with fail
        go_roundw
        case rel => exact ⟨k + 1, o ++ [(x : Int)], by omega, by go_num, by simp; omega, HP, HE2⟩
        case measure => simp [intOf]; omega
  case rest =>
  obtain ⟨lO1, hcut⟩ := hcut
  have HO1X := hide hcut
  obtain ⟨w3, rfl⟩ : ∃ w3, w3 = wc := ⟨_, rfl⟩
  clear hcut HO0 HO1 HP1 C31 MP LP
  go_upto_if 88 with fail
  go_cut [26] from 88 to 127 (fun s26 w5 => O2.length ≤ 65536 ∧ OutAt w w5 B ib N s26 O2 none [])
  case first =>
    cases up
    · have e1 : Hid (O2 = O1) := HO2.out
      go_wp2_with fail
      go_meet
      case rel => rw [e1.out]; exact ⟨by omega, HO1X.out⟩
    · have e1 : Hid (O2 = (loopB (stop2 n D) act2 RK (O1, 0)).1) := HO2.out
      go_wp2_with fail
      refine (C31K.out w3 HO1X.out.below).mono ?_
      rintro e w2 ⟨aR, capR, rfl, hrR, hbR, hpR⟩
      have HOR := hide (HO1X.out.walk hbR hrR hpR)
      obtain ⟨R, hR⟩ : ∃ R, R = RK := ⟨_, rfl⟩
      rw [← hR] at HOR e1 MK ⊢
      have HRM := hide MK.out
      obtain ⟨RL, hRL⟩ : ∃ RL, RL = R.length := ⟨_, rfl⟩
      have lRL : RL ≤ 32768 := by rw [hRL, hR]; exact LK
      rw [← hRL]
      have HRL := hide hRL
      obtain ⟨FT, hFT⟩ : ∃ FT, FT = loopB (stop2 n D) act2 R (O1, 0) := ⟨_, rfl⟩
      have HO2E : Hid (O2 = FT.1) := by rw [hFT]; exact e1
      have HFT := hide hFT
      clear hrR hbR hpR hRL hR HO1X C31K C31N HO2 e1 MK hFT
      go_wp2_with fail
      go_loopw [26, 31, 32, 33] (fun v m i x wr => ∃ (k mm : Nat) (o : List Int), k ≤ RL ∧ i = .int .i64 k ∧ m = .int .i64 mm ∧ mm ≤ k ∧ o.length ≤ 32768 + k ∧ Hid (OutAt w wr B ib N v o aR R) ∧ Hid (loopB (stop2 n D) act2 (R.drop k) (o, mm) = FT)) (fun v m i x _ => RL - (intOf i).toNat)
      case atStart => exact ⟨0, 0, O1, Nat.zero_le _, rfl, rfl, Nat.le_refl _, by omega, HOR, by rw [List.drop_zero]; exact HFT.out.symm⟩
      case round =>
        obtain ⟨k, mm, o, hk, rfl, rfl, hmk, hol, HO, HE⟩ := hrel
        obtain ⟨va, vcap, rfl⟩ := HO.out.form
        by_cases hlt : k < RL
        case neg =>
          obtain rfl : k = RL := by omega
          go_wp2_with fail
          go_meet
          case rel =>
            have e2 := HE.out
            rw [List.drop_of_length_le (by rw [HRL.out]; exact Nat.le_refl _), loopB] at e2
            have e3 : O2 = o := by rw [HO2E.out, ← e2]
            rw [e3]
            exact ⟨by omega, HO.out.drop⟩
        have hltI : (k : Int) < (RL : Int) := by omega
        by_cases hcd : n ≤ (o.length : Int)
        case pos =>
          have hcd' : decide (n ≤ (o.length : Int)) = true := by simpa using hcd
          go_wp2_with fail
          go_meet
          case rel =>
            have e2 := HE.out
            rw [loopB_stop _ _ (by simp only [stop2, Bool.not_eq_true', Bool.and_eq_false_iff, decide_eq_false_iff_not]; omega)] at e2
            have e3 : O2 = o := by rw [HO2E.out, ← e2]
            rw [e3]
            exact ⟨by omega, HO.out.drop⟩
        have hcd' : decide (n ≤ (o.length : Int)) = false := by simpa using hcd
        by_cases hmd : D ≤ (mm : Int)
        case pos =>
          have hmd' : decide (D ≤ (mm : Int)) = true := by simpa using hmd
          go_wp2_with fail
          go_meet
          case rel =>
            have e2 := HE.out
            rw [loopB_stop _ _ (by simp only [stop2, Bool.not_eq_true', Bool.and_eq_false_iff, decide_eq_false_iff_not]; omega)] at e2
            have e3 : O2 = o := by rw [HO2E.out, ← e2]
            rw [e3]
            exact ⟨by omega, HO.out.drop⟩
        have hmd' : decide (D ≤ (mm : Int)) = false := by simpa using hmd
        have hkl : k < R.length := by rw [← HRL.out]; exact hlt
        obtain ⟨x, hx, hxN⟩ : ∃ x : Nat, R[k] = (x : Int) ∧ x < N := HRM.out _ (List.getElem_mem hkl)
        obtain ⟨b, of', ea, cx⟩ := HO.out.reps k hkl
        rw [hx] at cx
        subst ea
        have HDR : Hid (R.drop k = (x : Int) :: R.drop (k + 1)) := by
          rw [List.drop_eq_getElem_cons hkl, hx]
          exact rfl
        have hxI : (x : Int) < (N : Int) := by omega
        obtain ⟨uf, huf⟩ := HO.out.flags.there hxN
        have ff := HO.out.flags.frozen x
        have HRW : Hid ((wr.setCell ⟨ib, x, none⟩ (.bool true)).ownsRow B 3 1 (.slice va o.length vcap) o.length (o.map (Value.int .i64))) :=
          ownsRow_keep HO.out.row fun g hg => Below.heap_setCell _ _ _ _ (by show g ≠ ib; have := (HO.out.row.lt g hg).1; have := HO.out.ibB; omega)
        have HBW : Hid (B ≤ wr.heap.size) := HO.out.Bwr

        have HST : Hid (loopB (stop2 n D) act2 (R.drop (k + 1)) (act2 (x : Int) (o, mm)) = FT) := by
          have e2 := HE.out
          rw [HDR.out, loopB, if_neg (by simp only [stop2, Bool.not_eq_true', Bool.and_eq_false_iff, decide_eq_false_iff_not]; omega)] at e2
          exact e2
        have cf : wr.cell? ⟨ib, x, none⟩ = some (.bool (decide ((x : Int) ∈ o))) := by
          rw [HO.out.flags.cell (i := x) (by rw [flagsOf_length]; exact hxN), ← flagsOf_get N o x hxN, List.getD_eq_getElem?_getD, List.getElem?_eq_getElem (by rw [flagsOf_length]; exact hxN)]
          rfl
        clear hx hcd hmd uf huf
        by_cases hin : (x : Int) ∈ o
        · have HE2 : Hid (loopB (stop2 n D) act2 (R.drop (k + 1)) (o, mm + 1) = FT) := by
            have := HST.out
            rw [act2, act3, if_pos hin] at this
            exact this
          rw [decide_eq_true hin] at cf
          clear hin
          go_wp2_with fail
          go_roundw
          case rel => exact ⟨k + 1, mm + 1, o, by omega, by go_num, by go_num, by omega, by omega, HO, HE2⟩
          case measure => simp [intOf]; omega
        · have HE2 : Hid (loopB (stop2 n D) act2 (R.drop (k + 1)) (o ++ [(x : Int)], mm + 1) = FT) := by
            have := HST.out
            rw [act2, act3, if_neg hin] at this
            exact this
          rw [decide_eq_false hin] at cf
          clear hin
          go_wp2_with (at_builtin; refine wpList_append_lies _ rfl _ _ _ rfl B 3 i0 _ 1 8 Try.underlying22 hi0 hz0 hz1 hz2 rfl (by omega) (.slice va o.length vcap) o.length (o.map (Value.int .i64)) rfl (HRW.out.alloc _) _ 1 1 [.int .i64 (x : Int)] rfl rfl (news_one _ _ _ _ (by first | rfl | simp)) (one_oneCell _ rfl) (by omega) (by unfold maxLen; omega) (by omega) (by have := HBW.out; simp; omega) (wr.heap.size + 1) (by simp) ?_)
          intro g cap w6 hown hgrow hat hlt6
          have HP := hide (HO.out.push x hxN hown hgrow (by simpa using hat))
          clear hown hgrow hat hlt6
          go_wp2_with fail
          go_roundw
          case rel => exact ⟨k + 1, mm + 1, o ++ [(x : Int)], by omega, by go_num, by go_num, by omega, by simp; omega, HP, HE2⟩
          case measure => simp [intOf]; omega
  case rest =>
  obtain ⟨lO2, hcut⟩ := hcut
  have HO2X := hide hcut
  obtain ⟨w4, rfl⟩ : ∃ w4, w4 = wc := ⟨_, rfl⟩
  clear hcut HO1X HO2 HUP C31K MK LK
  go_wp2_with fail
  refine (C31N.out w4 HO2X.out.below).mono ?_
  rintro e w2 ⟨aR, capR, rfl, hrR, hbR, hpR⟩
  have HOR := hide (HO2X.out.walk hbR hrR hpR)
  obtain ⟨R, hR⟩ : ∃ R, R = RN := ⟨_, rfl⟩
  rw [← hR] at HOR HFN MN ⊢
  have HRM := hide MN.out
  obtain ⟨RL, hRL⟩ : ∃ RL, RL = R.length := ⟨_, rfl⟩
  have lRL : RL ≤ 32768 := by rw [hRL, hR]; exact LN
  rw [← hRL]
  have HRL := hide hRL
  clear hrR hbR hpR hRL hR HO2X C31N MN
  go_wp2_with fail
  go_loopw [26, 35, 36] (fun v i x wr => ∃ (k : Nat) (o : List Int), k ≤ RL ∧ i = .int .i64 k ∧ o.length ≤ 65536 + k ∧ Hid (OutAt w wr B ib N v o aR R) ∧ Hid (loopB (stop1 count) act3 (R.drop k) o = FIN)) (fun v i x _ => RL - (intOf i).toNat)
  case atStart => exact ⟨0, O2, Nat.zero_le _, rfl, by omega, HOR, by rw [List.drop_zero]; exact HFN.out.symm⟩
  case round =>
    obtain ⟨k, o, hk, rfl, hol, HO, HE⟩ := hrel
    obtain ⟨va, vcap, rfl⟩ := HO.out.form
    by_cases hlt : k < RL
    case neg =>
      obtain rfl : k = RL := by omega
      have ee : o = FIN := by
        have e2 := HE.out
        rw [List.drop_of_length_le (by rw [HRL.out]; exact Nat.le_refl _), loopB] at e2
        exact e2
      have EE := hide ee
      clear ee

      go_wp2_with fail
      go_ret
      have hrw := HO.out.row
      have hbl := HO.out.below
      have ee := EE.out
      rw [ee] at hrw
      rcases hrw.2 with ⟨hv, hn⟩ | ⟨g, cap, cur, hv, hgB, hgh, _⟩
      · injection hv with v1 v2 v3
        subst v1
        subst v3
        refine ⟨none, 0, ?_, fun i hi => by omega, hbl, fun p hp => by cases hp⟩
        rw [← ee]
        rfl
      · injection hv with v1 v2 v3
        subst v1
        have h2 := hrw
        rw [← ee] at h2
        refine ⟨some ⟨g, 0, none⟩, vcap, ?_, ?_, hbl, fun p hp => by cases hp; exact ⟨Nat.le_trans (Nat.le_trans HO.out.ibW (Nat.le_of_lt HO.out.ibB)) hgB, lt_of_heap hgh⟩⟩
        · rw [← ee]
          rfl
        · rw [← ee]
          exact (Own.of_ownsRow h2).1.reads

    have hltI : (k : Int) < (RL : Int) := by omega
    by_cases hcd : (o.length : Int) < count
    case neg =>
      have EE : Hid (o = FIN) := by
        have e2 := HE.out
        rw [loopB_stop _ _ (by simp [stop1]; omega)] at e2
        exact e2

      go_wp2_with fail
      go_ret
      have hrw := HO.out.row
      have hbl := HO.out.below
      have ee := EE.out
      rw [ee] at hrw
      rcases hrw.2 with ⟨hv, hn⟩ | ⟨g, cap, cur, hv, hgB, hgh, _⟩
      · injection hv with v1 v2 v3
        subst v1
        subst v3
        refine ⟨none, 0, ?_, fun i hi => by omega, hbl, fun p hp => by cases hp⟩
        rw [← ee]
        rfl
      · injection hv with v1 v2 v3
        subst v1
        have h2 := hrw
        rw [← ee] at h2
        refine ⟨some ⟨g, 0, none⟩, vcap, ?_, ?_, hbl, fun p hp => by cases hp; exact ⟨Nat.le_trans (Nat.le_trans HO.out.ibW (Nat.le_of_lt HO.out.ibB)) hgB, lt_of_heap hgh⟩⟩
        · rw [← ee]
          rfl
        · rw [← ee]
          exact (Own.of_ownsRow h2).1.reads
    have hkl : k < R.length := by rw [← HRL.out]; exact hlt
    obtain ⟨x, hx, hxN⟩ : ∃ x : Nat, R[k] = (x : Int) ∧ x < N := HRM.out _ (List.getElem_mem hkl)
    obtain ⟨b, of', ea, cx⟩ := HO.out.reps k hkl
    rw [hx] at cx
    subst ea
    have HDR : Hid (R.drop k = (x : Int) :: R.drop (k + 1)) := by
      rw [List.drop_eq_getElem_cons hkl, hx]
      exact rfl
    have hxI : (x : Int) < (N : Int) := by omega
    obtain ⟨uf, huf⟩ := HO.out.flags.there hxN
    have ff := HO.out.flags.frozen x
    have HRW : Hid ((wr.setCell ⟨ib, x, none⟩ (.bool true)).ownsRow B 3 1 (.slice va o.length vcap) o.length (o.map (Value.int .i64))) :=
      ownsRow_keep HO.out.row fun g hg => Below.heap_setCell _ _ _ _ (by show g ≠ ib; have := (HO.out.row.lt g hg).1; have := HO.out.ibB; omega)
    have HBW : Hid (B ≤ wr.heap.size) := HO.out.Bwr

    have HST : Hid (loopB (stop1 count) act3 (R.drop (k + 1)) (act3 (x : Int) o) = FIN) := by
      have e2 := HE.out
      rw [HDR.out, loopB, if_neg (by simp [stop1]; omega)] at e2
      exact e2
    have cf : wr.cell? ⟨ib, x, none⟩ = some (.bool (decide ((x : Int) ∈ o))) := by
      rw [HO.out.flags.cell (i := x) (by rw [flagsOf_length]; exact hxN), ← flagsOf_get N o x hxN, List.getD_eq_getElem?_getD, List.getElem?_eq_getElem (by rw [flagsOf_length]; exact hxN)]
      rfl
    clear hx uf huf
    by_cases hin : (x : Int) ∈ o
    · have HE2 : Hid (loopB (stop1 count) act3 (R.drop (k + 1)) o = FIN) := by
        have := HST.out
        rw [act3, if_pos hin] at this
        exact this
      rw [decide_eq_true hin] at cf
      clear hin
      go_wp2_with fail
      go_roundw
      case rel => exact ⟨k + 1, o, by omega, by go_num, by omega, HO, HE2⟩
      case measure => simp [intOf]; omega
    · have HE2 : Hid (loopB (stop1 count) act3 (R.drop (k + 1)) (o ++ [(x : Int)]) = FIN) := by
        have := HST.out
        rw [act3, if_neg hin] at this
        exact this
      rw [decide_eq_false hin] at cf
      clear hin
      go_wp2_with (at_builtin; refine wpList_append_lies _ rfl _ _ _ rfl B 3 i0 _ 1 8 Try.underlying22 hi0 hz0 hz1 hz2 rfl (by omega) (.slice va o.length vcap) o.length (o.map (Value.int .i64)) rfl (HRW.out.alloc _) _ 1 1 [.int .i64 (x : Int)] rfl rfl (news_one _ _ _ _ (by first | rfl | simp)) (one_oneCell _ rfl) (by omega) (by unfold maxLen; omega) (by omega) (by have := HBW.out; simp; omega) (wr.heap.size + 1) (by simp) ?_)
      intro g cap w6 hown hgrow hat hlt6
      have HP := hide (HO.out.push x hxN hown hgrow (by simpa using hat))
      clear hown hgrow hat hlt6
      go_wp2_with fail
      go_roundw
      case rel => exact ⟨k + 1, o ++ [(x : Int)], by omega, by go_num, by simp; omega, HP, HE2⟩
      case measure => simp [intOf]; omega
#print axioms modelList_any
end Go.Proofs.Qxb6604780a
