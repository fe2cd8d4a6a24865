/-
  The walks of zzModelScan and zzAllFalse.
-/
import Derived.Test.Qxb6604780aScanp
import Derived.Test.Qxb6604780aScang
import Derived.Test.Qxb6604780aRowin
namespace Go.Proofs.Qxb6604780a
set_option linter.unusedSimpArgs false
set_option linter.unusedVariables false
open Go.RowKit

theorem allFalse_any (b n : Nat) (w : World) (hl : n ≤ 1048576) (h : Own Value.bool 4 w b n (List.replicate n false)) : Calls Try.prog 16 #[.slice (some ⟨b, 0, none⟩) n n] w fun e w' => e = .returned (.bool true) ∧ w' = w := by
  have H := hide h
  clear h
  go_enter Try.func16, Try.ntmps16
  go_wp2
  go_loop [3] (fun i => ∃ k : Nat, k ≤ n ∧ i = .int .i64 k) (fun i => n - (intOf i).toNat)
  case atStart => exact ⟨0, Nat.zero_le _, rfl⟩
  case round =>
    obtain ⟨k, hk, rfl⟩ := hrel
    by_cases hlt : k < n
    · have hltI : (k : Int) < (n : Int) := by omega
      have hc := H.out.cell (i := k) (by simpa using hlt)
      rw [List.getElem_replicate] at hc
      go_wp2
      go_round
      case rel => exact ⟨k + 1, by omega, by go_num⟩
      case measure => simp [intOf]; omega
    · obtain rfl : k = n := by omega
      go_wp2
      go_ret
      exact ⟨rfl, rfl⟩

set_option maxRecDepth 100000 in
set_option maxHeartbeats 2000000 in
theorem model_picks (bd : Nat) (dc pts pks ofs : List Int) (a2 a3 : Option Addr) (L2 c2 L3 c3 N M po c8 : Nat) (n walk : Int) (hh pk : Nat) (w : World)
    (hdc : Reads (Value.int .i64) w (some ⟨bd, 0, none⟩) dc) (hdl : dc.length = N) (hdIn : AllIn dc M) (hxs : Reads (Value.int .i64) w a3 pks) (hxl : pks.length = L3) (hxIn : AllIn pks N) (hof : Reads (Value.int .u8) w (some ⟨po, 0, none⟩) ofs) (hol : ofs.length = N)
    (lN : N ≤ 32768) (lM : M ≤ 65536) (lL : L3 ≤ 32768) (hhN : hh < N) (hst0 : pk < L3) (hmem : (hh : Int) ∈ pks)  :
    Calls Try.prog 23 #[.slice (some ⟨bd, 0, none⟩) N N, .int .i64 (M : Int), .slice a2 L2 c2, .slice a3 L3 c3, .int .i64 n, .int .i64 (hh : Int), .int .i64 walk, .int .i64 (pk : Int), .slice (some ⟨po, 0, none⟩) N c8, .int .i64 2] w fun e w' => e = .returned (.bool (scanPicks dc ofs M n hh (rot pks pk))) ∧ Below w.heap.size w w' := by
  obtain ⟨seq, hseq⟩ : ∃ seq, seq = rot pks pk := ⟨_, rfl⟩
  have hms : (hh : Int) ∈ seq := by
    rw [hseq]
    unfold rot
    have := List.take_append_drop pk pks
    rw [← this] at hmem
    rcases List.mem_append.1 hmem with h | h
    · exact List.mem_append_right _ h
    · exact List.mem_append_left _ h
  obtain ⟨P, hP, hPh, hPn, hPa⟩ := ahead_split (hh : Int) seq hms
  have hsl : seq.length = L3 := by rw [hseq, ← hxl]; exact rot_length pks pk (by omega)
  obtain ⟨ow, how, howM⟩ := hdIn.nat (j := hh) (by rw [hdl]; exact hhN)
  have HSP : Hid (∀ j, j ≤ P → ∃ x : Nat, x < N ∧ (seq[j]? = some (x : Int)) ∧ pks.getD ((pk + j) % L3) 0 = (x : Int)) := by
    intro j hj
    obtain ⟨x, hx, hxN⟩ := hxIn.nat (j := (pk + j) % L3) (by rw [hxl]; exact Nat.mod_lt _ (by omega))
    refine ⟨x, hxN, ?_, hx⟩
    rw [hseq, rot_get? pks pk j (by omega) (by omega), hxl, ← hx, List.getD_eq_getElem?_getD]
    rw [List.getElem?_eq_getElem (by rw [hxl]; exact Nat.mod_lt _ (by omega))]
    rfl
  have HRES : Hid (scanPicks dc ofs M n hh (rot pks pk) = (decide ((ow : Int) ∈ keysP dc ofs seq P) || decide (n ≤ (cnt M (keysP dc ofs seq P) : Int)))) := by
    unfold scanPicks keysP
    rw [← hseq, hPa, show dcAt dc (hh : Int) = (ow : Int) from how]
    exact rfl
  obtain ⟨res, hres⟩ : ∃ res, res = scanPicks dc ofs M n hh (rot pks pk) := ⟨_, rfl⟩
  rw [← hres] at HRES ⊢
  have HPH := hide hPh
  have HPN := hide hPn
  have HPL : Hid (P < L3) := by rw [← hsl]; exact hP
  have HDC := hide hdc
  have HDL := hide hdl
  have HDI := hide hdIn
  have HXS0 := hide hxs
  have HXL := hide hxl
  have HOF := hide hof
  have HOL := hide hol
  have co := hdc.nat (i := hh) (by rw [hdl]; exact hhN)
  rw [how] at co
  have hhI : (hh : Int) < (N : Int) := by omega
  have hmk := run_make_row' (P := Try.prog) 30 4 (.bool false) 1 Try.underlying30 info4 rfl .i64 .i64 M (by omega) (by omega)
  clear hdc hdl hdIn hxs hxl hxIn hof hol how hms hP hPh hPn hPa hmem hsl hres
  go_enter Try.func23, Try.ntmps23
  go_wp2_with fail
  go_loopw [22, 24, 26, 27, 28] (fun o s i x y wr => ∃ (j mm : Nat) (ob : Bool), j ≤ P ∧ i = .int .i64 (j : Int) ∧ s = .int .i64 (mm : Int) ∧ o = .bool ob ∧ Hid (Own Value.bool 4 wr w.heap.size M (flagsOf M (keysP dc ofs seq j))) ∧ Hid (Below w.heap.size w wr) ∧ Hid (mm = cnt M (keysP dc ofs seq j)) ∧ Hid (ob = decide ((ow : Int) ∈ keysP dc ofs seq j))) (fun o s i x y _ => L3 - (intOf i).toNat)
  case atStart =>
    have e1 : keysP dc ofs seq 0 = [] := by simp [keysP, here]
    refine ⟨0, 0, false, Nat.zero_le _, rfl, rfl, rfl, ?_, (Below.refl _ _).alloc (Nat.le_refl _) _, ?_, ?_⟩
    · rw [e1, flagsOf_nil]
      exact Own.made _ _ _ _ _ rfl
    · rw [e1, cnt_nil]
      exact rfl
    · rw [e1]
      exact (decide_eq_false List.not_mem_nil).symm
  case round =>
    obtain ⟨j, mm, ob, hj, rfl, rfl, rfl, hOw, hBe, hmm, hob⟩ := hrel
    obtain ⟨x, hxN, hxs, hxp⟩ := HSP.out j hj
    have HXS := hide hxs
    have hjL : j < L3 := by have := HPL.out; omega
    have hjI : (j : Int) < (L3 : Int) := by omega
    obtain ⟨i0, hi0⟩ : ∃ i0, i0 = (pk + j) % L3 := ⟨_, rfl⟩
    have hi0l : i0 < L3 := by rw [hi0]; exact Nat.mod_lt _ (by omega)
    rw [← hi0] at hxp
    have htm : Int.tmod ((pk : Int) + (j : Int)) (L3 : Int) = (i0 : Int) := by
      rw [hi0, ← Int.natCast_add]; exact (Int.ofNat_tmod _ _)
    have hi0I : (i0 : Int) < (L3 : Int) := by omega
    have hL0 : ¬ ((L3 : Int) = 0) := by omega
    have hxI : (x : Int) < (N : Int) := by omega
    obtain ⟨bx, ox, ex, cx⟩ := (HXS0.out.keep hBe.out) i0 (by rw [HXL.out]; exact hi0l)
    have gx : pks[i0]'(by rw [HXL.out]; exact hi0l) = (x : Int) := by
      rw [← hxp, List.getD_eq_getElem?_getD, List.getElem?_eq_getElem (by rw [HXL.out]; exact hi0l)]
      rfl
    rw [gx] at cx
    obtain ⟨d, hd, hdM⟩ := HDI.out.nat (j := x) (by rw [HDL.out]; exact hxN)
    have cd := (HDC.out.keep hBe.out).nat (i := x) (by rw [HDL.out]; exact hxN)
    rw [hd] at cd
    have HDD : Hid (dcAt dc (x : Int) = (d : Int)) := hd
    have hdI : (d : Int) < (M : Int) := by omega
    have cp : wr.cell? ⟨po, x, none⟩ = some (.int .u8 (ofs.getD x 0)) := by
      have := (HOF.out.keep hBe.out).at rfl (i := x) (by rw [HOL.out]; exact hxN)
      rw [Nat.zero_add] at this
      rw [this, List.getD_eq_getElem?_getD, List.getElem?_eq_getElem (by rw [HOL.out]; exact hxN)]
      rfl
    obtain ⟨y, hy⟩ : ∃ y, y = ofs.getD x 0 := ⟨_, rfl⟩
    rw [← hy] at cp
    have HY := hide hy
    have cf : wr.cell? ⟨w.heap.size, d, none⟩ = some (.bool ((flagsOf M (keysP dc ofs seq j)).getD d false)) := by
      rw [hOw.out.cell (i := d) (by rw [flagsOf_length]; exact hdM), List.getD_eq_getElem?_getD, List.getElem?_eq_getElem (by rw [flagsOf_length]; exact hdM)]
      rfl
    rw [flagsOf_get M _ d hdM] at cf
    have ff := hOw.out.frozen d
    have HKY : Hid (∀ b, (ofs.getD x 0 == 0) = b → ((ofs.getD ((x : Int).toNat) 0 == 0) = b)) := fun b h => by rw [Int.toNat_natCast]; exact h
    have hmb : mm ≤ 65536 := by have := cnt_le M (keysP dc ofs seq j); rw [← hmm.out] at this; omega
    subst ex
    clear hi0 hxp hd hy gx
    by_cases hjP : j = P
    case pos =>
      have hxh : (x : Int) = (hh : Int) := by
        have a1 := HXS.out
        rw [hjP, HPH.out] at a1
        exact (Option.some.inj a1).symm
      have t1 : ((x : Int) == (hh : Int)) = true := by simpa using hxh
      have HRF : Hid (res = (ob || decide (n ≤ (mm : Int)))) := by
        rw [HRES.out, ← hjP, ← hmm.out, ← hob.out]
        exact rfl
      clear hxs hxh hjP
      cases ob
      · go_wp2_with fail
        go_ret
        exact ⟨by rw [HRF.out]; simp, hBe.out⟩
      · go_wp2_with fail
        go_ret
        exact ⟨by rw [HRF.out]; simp, hBe.out⟩
    have hxh : (x : Int) ≠ (hh : Int) := HPN.out j x (by omega) HXS.out
    have t1 : ((x : Int) == (hh : Int)) = false := by simpa using hxh
    clear hxs hxh
    by_cases hy0 : y = 0
    case neg =>
      have u1 : (y == 0) = false := by simpa using hy0
      have u2 : (!(y == 0)) = true := by rw [u1]; rfl
      have HE : Hid (keysP dc ofs seq (j + 1) = keysP dc ofs seq j) := keysP_no HXS.out (HKY.out _ (by rw [← HY.out]; exact u1))
      have HE2 : Hid (here ofs (seq.take (j + 1)) = here ofs (seq.take j)) := here_no HXS.out (HKY.out _ (by rw [← HY.out]; exact u1))
      clear hy0
      go_wp2_with fail
      go_roundw
      case rel => exact ⟨j + 1, mm, ob, by omega, by go_num, rfl, rfl, by rw [HE.out]; exact hOw, hBe, by rw [HE.out]; exact hmm, by rw [HE.out]; exact hob⟩
      case measure => simp [intOf]; omega
    have u1 : (y == 0) = true := by simpa using hy0
    have u2 : (!(y == 0)) = false := by rw [u1]; rfl
    have HE : Hid (keysP dc ofs seq (j + 1) = keysP dc ofs seq j ++ [(d : Int)]) := by
      have := keysP_yes (dc := dc) HXS.out (HKY.out _ (by rw [← HY.out]; exact u1))
      rw [HDD.out] at this
      exact this
    have HE2 : Hid (here ofs (seq.take (j + 1)) = here ofs (seq.take j) ++ [(x : Int)]) := here_yes HXS.out (HKY.out _ (by rw [← HY.out]; exact u1))
    subst hy0
    have HO1 : Hid (((d : Int) == (ow : Int)) = true → true = decide ((ow : Int) ∈ keysP dc ofs seq (j + 1))) := by
      intro h
      rw [HE.out, decide_eq_true (List.mem_append_right _ (List.mem_singleton.2 (by simpa using h : (d : Int) = (ow : Int)).symm))]
    have HO2 : Hid (((d : Int) == (ow : Int)) = false → ob = decide ((ow : Int) ∈ keysP dc ofs seq (j + 1))) := by
      intro h
      have h' : (d : Int) ≠ (ow : Int) := by simpa using h
      rw [hob.out, HE.out]
      refine decide_eq_decide.2 ?_
      rw [List.mem_append, List.mem_singleton]
      exact ⟨.inl, fun h => h.elim id (fun e => absurd e.symm h')⟩
    have hEk : (keysP dc ofs seq (j + 1)) = (keysP dc ofs seq j) ++ [(d : Int)] := HE.out
    by_cases hin : (d : Int) ∈ (keysP dc ofs seq j)
    case pos =>
      have hb : decide ((d : Int) ∈ (keysP dc ofs seq j)) = true := decide_eq_true hin
      rw [hb] at cf
      have HOw2 : Hid (Own Value.bool 4 wr w.heap.size M (flagsOf M (keysP dc ofs seq (j + 1)))) := by rw [hEk, flagsOf_same _ _ _ hin]; exact hOw
      have HM2 : Hid (mm = cnt M (keysP dc ofs seq (j + 1))) := by rw [hEk, cnt_same _ _ _ hin]; exact hmm
      clear hin hb hEk
      by_cases hdo : (d : Int) = (ow : Int)
      · have v1 : ((d : Int) == (ow : Int)) = true := by simpa using hdo
        have HO3 := hide (HO1.out v1)
        clear hdo HO1 HO2
        go_wp2_with fail
        go_roundw
        case rel => exact ⟨j + 1, mm, true, by omega, by go_num, rfl, rfl, HOw2, hBe, HM2, HO3⟩
        case measure => simp [intOf]; omega
      · have v1 : ((d : Int) == (ow : Int)) = false := by simpa using hdo
        have HO3 := hide (HO2.out v1)
        clear hdo HO1 HO2
        go_wp2_with fail
        go_roundw
        case rel => exact ⟨j + 1, mm, ob, by omega, by go_num, rfl, rfl, HOw2, hBe, HM2, HO3⟩
        case measure => simp [intOf]; omega
    case neg =>
      have hb : decide ((d : Int) ∈ (keysP dc ofs seq j)) = false := decide_eq_false hin
      rw [hb] at cf
      have HOw2 : Hid (Own Value.bool 4 (wr.setCell ⟨w.heap.size, d, none⟩ (.bool true)) w.heap.size M (flagsOf M (keysP dc ofs seq (j + 1)))) := by
        rw [hEk, ← flagsOf_set M _ d hdM]
        exact hOw.out.set d true
      have HM2 : Hid (mm + 1 = cnt M (keysP dc ofs seq (j + 1))) := by rw [hEk, cnt_new M _ d hdM hin, ← hmm.out]; exact rfl
      have HB2 : Hid (Below w.heap.size w (wr.setCell ⟨w.heap.size, d, none⟩ (.bool true))) := hBe.out.setCell (by exact Nat.le_refl _) _
      clear hin hb hEk
      by_cases hdo : (d : Int) = (ow : Int)
      · have v1 : ((d : Int) == (ow : Int)) = true := by simpa using hdo
        have HO3 := hide (HO1.out v1)
        clear hdo HO1 HO2
        go_wp2_with fail
        go_roundw
        case rel => exact ⟨j + 1, mm + 1, true, by omega, by go_num, by go_num, rfl, HOw2, HB2, HM2, HO3⟩
        case measure => simp [intOf]; omega
      · have v1 : ((d : Int) == (ow : Int)) = false := by simpa using hdo
        have HO3 := hide (HO2.out v1)
        clear hdo HO1 HO2
        go_wp2_with fail
        go_roundw
        case rel => exact ⟨j + 1, mm + 1, ob, by omega, by go_num, by go_num, rfl, HOw2, HB2, HM2, HO3⟩
        case measure => simp [intOf]; omega

set_option maxRecDepth 100000 in
set_option maxHeartbeats 2000000 in
theorem model_points (bd : Nat) (dc pts pks ofs : List Int) (a2 a3 : Option Addr) (L2 c2 L3 c3 N M po c8 : Nat) (n pick stp : Int) (hh wk : Nat) (w : World)
    (hdc : Reads (Value.int .i64) w (some ⟨bd, 0, none⟩) dc) (hdl : dc.length = N) (hdIn : AllIn dc M) (hxs : Reads (Value.int .i64) w a2 pts) (hxl : pts.length = L2) (hxIn : AllIn pts N) (hof : Reads (Value.int .u8) w (some ⟨po, 0, none⟩) ofs) (hol : ofs.length = N)
    (lN : N ≤ 32768) (lM : M ≤ 65536) (lL : L2 ≤ 32768) (hhN : hh < N) (hst0 : wk < L2) (hmem : (hh : Int) ∈ pts) (hst : stp ≠ 2) :
    Calls Try.prog 23 #[.slice (some ⟨bd, 0, none⟩) N N, .int .i64 (M : Int), .slice a2 L2 c2, .slice a3 L3 c3, .int .i64 n, .int .i64 (hh : Int), .int .i64 (wk : Int), .int .i64 pick, .slice (some ⟨po, 0, none⟩) N c8, .int .i64 stp] w fun e w' => e = .returned (.bool (scanPoints dc ofs N n hh stp (rot pts wk))) ∧ Below w.heap.size w w' := by
  obtain ⟨seq, hseq⟩ : ∃ seq, seq = rot pts wk := ⟨_, rfl⟩
  have hms : (hh : Int) ∈ seq := by
    rw [hseq]
    unfold rot
    have := List.take_append_drop wk pts
    rw [← this] at hmem
    rcases List.mem_append.1 hmem with h | h
    · exact List.mem_append_right _ h
    · exact List.mem_append_left _ h
  obtain ⟨P, hP, hPh, hPn, hPa⟩ := ahead_split (hh : Int) seq hms
  have hsl : seq.length = L2 := by rw [hseq, ← hxl]; exact rot_length pts wk (by omega)
  obtain ⟨ow, how, howM⟩ := hdIn.nat (j := hh) (by rw [hdl]; exact hhN)
  have HSP : Hid (∀ j, j ≤ P → ∃ x : Nat, x < N ∧ (seq[j]? = some (x : Int)) ∧ pts.getD ((wk + j) % L2) 0 = (x : Int)) := by
    intro j hj
    obtain ⟨x, hx, hxN⟩ := hxIn.nat (j := (wk + j) % L2) (by rw [hxl]; exact Nat.mod_lt _ (by omega))
    refine ⟨x, hxN, ?_, hx⟩
    rw [hseq, rot_get? pts wk j (by omega) (by omega), hxl, ← hx, List.getD_eq_getElem?_getD]
    rw [List.getElem?_eq_getElem (by rw [hxl]; exact Nat.mod_lt _ (by omega))]
    rfl
  have HRES : Hid (scanPoints dc ofs N n hh stp (rot pts wk) = (decide (n ≤ (cnt N (here ofs (seq.take P)) : Int)) && (decide (stp = 0) || decide ((ow : Int) ∈ keysP dc ofs seq P)))) := by
    unfold scanPoints keysP
    rw [← hseq, hPa, show dcAt dc (hh : Int) = (ow : Int) from how]
    exact rfl
  obtain ⟨res, hres⟩ : ∃ res, res = scanPoints dc ofs N n hh stp (rot pts wk) := ⟨_, rfl⟩
  rw [← hres] at HRES ⊢
  have HPH := hide hPh
  have HPN := hide hPn
  have HPL : Hid (P < L2) := by rw [← hsl]; exact hP
  have HDC := hide hdc
  have HDL := hide hdl
  have HDI := hide hdIn
  have HXS0 := hide hxs
  have HXL := hide hxl
  have HOF := hide hof
  have HOL := hide hol
  have co := hdc.nat (i := hh) (by rw [hdl]; exact hhN)
  rw [how] at co
  have hhI : (hh : Int) < (N : Int) := by omega
  have hmk := run_make_row' (P := Try.prog) 30 4 (.bool false) 1 Try.underlying30 info4 rfl .i64 .i64 N (by omega) (by omega)
  have hst' : (stp == 2) = false := by simpa using hst
  clear hdc hdl hdIn hxs hxl hxIn hof hol how hms hP hPh hPn hPa hmem hsl hres hst
  go_enter Try.func23, Try.ntmps23
  go_wp2_with fail
  go_loopw [22, 30, 32, 33] (fun o s i x wr => ∃ (j mm : Nat) (ob : Bool), j ≤ P ∧ i = .int .i64 (j : Int) ∧ s = .int .i64 (mm : Int) ∧ o = .bool ob ∧ Hid (Own Value.bool 4 wr w.heap.size N (flagsOf N (here ofs (seq.take j)))) ∧ Hid (Below w.heap.size w wr) ∧ Hid (mm = cnt N (here ofs (seq.take j))) ∧ Hid (ob = decide ((ow : Int) ∈ keysP dc ofs seq j))) (fun o s i x _ => L2 - (intOf i).toNat)
  case atStart =>
    have e1 : keysP dc ofs seq 0 = [] := by simp [keysP, here]
    have e0 : here ofs (seq.take 0) = [] := by simp [here]
    refine ⟨0, 0, false, Nat.zero_le _, rfl, rfl, rfl, ?_, (Below.refl _ _).alloc (Nat.le_refl _) _, ?_, ?_⟩
    · rw [e0, flagsOf_nil]
      exact Own.made _ _ _ _ _ rfl
    · rw [e0, cnt_nil]
      exact rfl
    · rw [e1]
      exact (decide_eq_false List.not_mem_nil).symm
  case round =>
    obtain ⟨j, mm, ob, hj, rfl, rfl, rfl, hOw, hBe, hmm, hob⟩ := hrel
    obtain ⟨x, hxN, hxs, hxp⟩ := HSP.out j hj
    have HXS := hide hxs
    have hjL : j < L2 := by have := HPL.out; omega
    have hjI : (j : Int) < (L2 : Int) := by omega
    obtain ⟨i0, hi0⟩ : ∃ i0, i0 = (wk + j) % L2 := ⟨_, rfl⟩
    have hi0l : i0 < L2 := by rw [hi0]; exact Nat.mod_lt _ (by omega)
    rw [← hi0] at hxp
    have htm : Int.tmod ((wk : Int) + (j : Int)) (L2 : Int) = (i0 : Int) := by
      rw [hi0, ← Int.natCast_add]; exact (Int.ofNat_tmod _ _)
    have hi0I : (i0 : Int) < (L2 : Int) := by omega
    have hL0 : ¬ ((L2 : Int) = 0) := by omega
    have hxI : (x : Int) < (N : Int) := by omega
    obtain ⟨bx, ox, ex, cx⟩ := (HXS0.out.keep hBe.out) i0 (by rw [HXL.out]; exact hi0l)
    have gx : pts[i0]'(by rw [HXL.out]; exact hi0l) = (x : Int) := by
      rw [← hxp, List.getD_eq_getElem?_getD, List.getElem?_eq_getElem (by rw [HXL.out]; exact hi0l)]
      rfl
    rw [gx] at cx
    obtain ⟨d, hd, hdM⟩ := HDI.out.nat (j := x) (by rw [HDL.out]; exact hxN)
    have cd := (HDC.out.keep hBe.out).nat (i := x) (by rw [HDL.out]; exact hxN)
    rw [hd] at cd
    have HDD : Hid (dcAt dc (x : Int) = (d : Int)) := hd
    have hdI : (d : Int) < (M : Int) := by omega
    have cp : wr.cell? ⟨po, x, none⟩ = some (.int .u8 (ofs.getD x 0)) := by
      have := (HOF.out.keep hBe.out).at rfl (i := x) (by rw [HOL.out]; exact hxN)
      rw [Nat.zero_add] at this
      rw [this, List.getD_eq_getElem?_getD, List.getElem?_eq_getElem (by rw [HOL.out]; exact hxN)]
      rfl
    obtain ⟨y, hy⟩ : ∃ y, y = ofs.getD x 0 := ⟨_, rfl⟩
    rw [← hy] at cp
    have HY := hide hy
    have cf : wr.cell? ⟨w.heap.size, x, none⟩ = some (.bool ((flagsOf N (here ofs (seq.take j))).getD x false)) := by
      rw [hOw.out.cell (i := x) (by rw [flagsOf_length]; exact hxN), List.getD_eq_getElem?_getD, List.getElem?_eq_getElem (by rw [flagsOf_length]; exact hxN)]
      rfl
    rw [flagsOf_get N _ x hxN] at cf
    have ff := hOw.out.frozen x
    have HKY : Hid (∀ b, (ofs.getD x 0 == 0) = b → ((ofs.getD ((x : Int).toNat) 0 == 0) = b)) := fun b h => by rw [Int.toNat_natCast]; exact h
    have hmb : mm ≤ 65536 := by have := cnt_le N (here ofs (seq.take j)); rw [← hmm.out] at this; omega
    subst ex
    clear hi0 hxp hd hy gx
    by_cases hjP : j = P
    case pos =>
      have hxh : (x : Int) = (hh : Int) := by
        have a1 := HXS.out
        rw [hjP, HPH.out] at a1
        exact (Option.some.inj a1).symm
      have t1 : ((x : Int) == (hh : Int)) = true := by simpa using hxh
      have HRF : Hid (res = (decide (n ≤ (mm : Int)) && (decide (stp = 0) || ob))) := by
        rw [HRES.out, ← hjP, ← hmm.out, ← hob.out]
        exact rfl
      clear hxs hxh hjP
      by_cases z1 : n ≤ (mm : Int)
      · have z1' : decide (n ≤ (mm : Int)) = true := by simpa using z1
        by_cases z2 : stp = 0
        · have z2' : (stp == 0) = true := by simpa using z2
          have HRT : Hid (res = true) := by rw [HRF.out, z1', decide_eq_true z2]; exact rfl
          clear z1 z2
          go_wp2_with fail
          go_ret
          exact ⟨by rw [HRT.out]; rfl, hBe.out⟩
        · have z2' : (stp == 0) = false := by simpa using z2
          have HRT : Hid (res = ob) := by rw [HRF.out, z1', decide_eq_false z2]; exact rfl
          clear z1 z2
          go_wp2_with fail
          go_ret
          exact ⟨by rw [HRT.out]; rfl, hBe.out⟩
      · have z1' : decide (n ≤ (mm : Int)) = false := by simpa using z1
        have HRT : Hid (res = false) := by rw [HRF.out, z1']; exact rfl
        clear z1
        go_wp2_with fail
        go_ret
        exact ⟨by rw [HRT.out]; rfl, hBe.out⟩
    have hxh : (x : Int) ≠ (hh : Int) := HPN.out j x (by omega) HXS.out
    have t1 : ((x : Int) == (hh : Int)) = false := by simpa using hxh
    clear hxs hxh
    by_cases hy0 : y = 0
    case neg =>
      have u1 : (y == 0) = false := by simpa using hy0
      have u2 : (!(y == 0)) = true := by rw [u1]; rfl
      have HE : Hid (keysP dc ofs seq (j + 1) = keysP dc ofs seq j) := keysP_no HXS.out (HKY.out _ (by rw [← HY.out]; exact u1))
      have HE2 : Hid (here ofs (seq.take (j + 1)) = here ofs (seq.take j)) := here_no HXS.out (HKY.out _ (by rw [← HY.out]; exact u1))
      clear hy0
      go_wp2_with fail
      go_roundw
      case rel => exact ⟨j + 1, mm, ob, by omega, by go_num, rfl, rfl, by rw [HE2.out]; exact hOw, hBe, by rw [HE2.out]; exact hmm, by rw [HE.out]; exact hob⟩
      case measure => simp [intOf]; omega
    have u1 : (y == 0) = true := by simpa using hy0
    have u2 : (!(y == 0)) = false := by rw [u1]; rfl
    have HE : Hid (keysP dc ofs seq (j + 1) = keysP dc ofs seq j ++ [(d : Int)]) := by
      have := keysP_yes (dc := dc) HXS.out (HKY.out _ (by rw [← HY.out]; exact u1))
      rw [HDD.out] at this
      exact this
    have HE2 : Hid (here ofs (seq.take (j + 1)) = here ofs (seq.take j) ++ [(x : Int)]) := here_yes HXS.out (HKY.out _ (by rw [← HY.out]; exact u1))
    subst hy0
    have HO1 : Hid (((d : Int) == (ow : Int)) = true → true = decide ((ow : Int) ∈ keysP dc ofs seq (j + 1))) := by
      intro h
      rw [HE.out, decide_eq_true (List.mem_append_right _ (List.mem_singleton.2 (by simpa using h : (d : Int) = (ow : Int)).symm))]
    have HO2 : Hid (((d : Int) == (ow : Int)) = false → ob = decide ((ow : Int) ∈ keysP dc ofs seq (j + 1))) := by
      intro h
      have h' : (d : Int) ≠ (ow : Int) := by simpa using h
      rw [hob.out, HE.out]
      refine decide_eq_decide.2 ?_
      rw [List.mem_append, List.mem_singleton]
      exact ⟨.inl, fun h => h.elim id (fun e => absurd e.symm h')⟩
    have hEk : (here ofs (seq.take (j + 1))) = (here ofs (seq.take j)) ++ [(x : Int)] := HE2.out
    by_cases hin : (x : Int) ∈ (here ofs (seq.take j))
    case pos =>
      have hb : decide ((x : Int) ∈ (here ofs (seq.take j))) = true := decide_eq_true hin
      rw [hb] at cf
      have HOw2 : Hid (Own Value.bool 4 wr w.heap.size N (flagsOf N (here ofs (seq.take (j + 1))))) := by rw [hEk, flagsOf_same _ _ _ hin]; exact hOw
      have HM2 : Hid (mm = cnt N (here ofs (seq.take (j + 1)))) := by rw [hEk, cnt_same _ _ _ hin]; exact hmm
      clear hin hb hEk
      by_cases hdo : (d : Int) = (ow : Int)
      · have v1 : ((d : Int) == (ow : Int)) = true := by simpa using hdo
        have HO3 := hide (HO1.out v1)
        clear hdo HO1 HO2
        go_wp2_with fail
        go_roundw
        case rel => exact ⟨j + 1, mm, true, by omega, by go_num, rfl, rfl, HOw2, hBe, HM2, HO3⟩
        case measure => simp [intOf]; omega
      · have v1 : ((d : Int) == (ow : Int)) = false := by simpa using hdo
        have HO3 := hide (HO2.out v1)
        clear hdo HO1 HO2
        go_wp2_with fail
        go_roundw
        case rel => exact ⟨j + 1, mm, ob, by omega, by go_num, rfl, rfl, HOw2, hBe, HM2, HO3⟩
        case measure => simp [intOf]; omega
    case neg =>
      have hb : decide ((x : Int) ∈ (here ofs (seq.take j))) = false := decide_eq_false hin
      rw [hb] at cf
      have HOw2 : Hid (Own Value.bool 4 (wr.setCell ⟨w.heap.size, x, none⟩ (.bool true)) w.heap.size N (flagsOf N (here ofs (seq.take (j + 1))))) := by
        rw [hEk, ← flagsOf_set N _ x hxN]
        exact hOw.out.set x true
      have HM2 : Hid (mm + 1 = cnt N (here ofs (seq.take (j + 1)))) := by rw [hEk, cnt_new N _ x hxN hin, ← hmm.out]; exact rfl
      have HB2 : Hid (Below w.heap.size w (wr.setCell ⟨w.heap.size, x, none⟩ (.bool true))) := hBe.out.setCell (by exact Nat.le_refl _) _
      clear hin hb hEk
      by_cases hdo : (d : Int) = (ow : Int)
      · have v1 : ((d : Int) == (ow : Int)) = true := by simpa using hdo
        have HO3 := hide (HO1.out v1)
        clear hdo HO1 HO2
        go_wp2_with fail
        go_roundw
        case rel => exact ⟨j + 1, mm + 1, true, by omega, by go_num, by go_num, rfl, HOw2, HB2, HM2, HO3⟩
        case measure => simp [intOf]; omega
      · have v1 : ((d : Int) == (ow : Int)) = false := by simpa using hdo
        have HO3 := hide (HO2.out v1)
        clear hdo HO1 HO2
        go_wp2_with fail
        go_roundw
        case rel => exact ⟨j + 1, mm + 1, ob, by omega, by go_num, by go_num, rfl, HOw2, HB2, HM2, HO3⟩
        case measure => simp [intOf]; omega

/-- zzModelScan, whatever the step. -/
theorem modelScan_any (bd : Nat) (dc pts pks ofs : List Int) (a2 a3 : Option Addr) (L2 c2 L3 c3 N M po c8 : Nat) (n walk pick stp : Int) (hh : Nat) (w : World)
    (hdc : Reads (Value.int .i64) w (some ⟨bd, 0, none⟩) dc) (hdl : dc.length = N) (hdIn : AllIn dc M) (hx2 : Reads (Value.int .i64) w a2 pts) (hl2 : pts.length = L2) (h2In : AllIn pts N) (hx3 : Reads (Value.int .i64) w a3 pks) (hl3 : pks.length = L3) (h3In : AllIn pks N) (hof : Reads (Value.int .u8) w (some ⟨po, 0, none⟩) ofs) (hol : ofs.length = N)
    (lN : N ≤ 32768) (lM : M ≤ 65536) (l2 : L2 ≤ 32768) (l3 : L3 ≤ 32768) (hhN : hh < N) (hpk : stp = 2 → 0 ≤ pick ∧ pick < pks.length ∧ (hh : Int) ∈ pks) (hwk : stp ≠ 2 → 0 ≤ walk ∧ walk < pts.length ∧ (hh : Int) ∈ pts) :
    Calls Try.prog 23 #[.slice (some ⟨bd, 0, none⟩) N N, .int .i64 (M : Int), .slice a2 L2 c2, .slice a3 L3 c3, .int .i64 n, .int .i64 (hh : Int), .int .i64 walk, .int .i64 pick, .slice (some ⟨po, 0, none⟩) N c8, .int .i64 stp] w fun e w' => e = .returned (.bool (scanned dc ofs pts pks N M n hh walk pick stp)) ∧ Below w.heap.size w w' := by
  by_cases e : stp = 2
  · subst e
    obtain ⟨p0, p1, pm⟩ := hpk rfl
    obtain ⟨pk, rfl⟩ : ∃ pk : Nat, pick = (pk : Int) := ⟨pick.toNat, by omega⟩
    have hr : scanned dc ofs pts pks N M n hh walk pk 2 = scanPicks dc ofs M n hh (rot pks pk) := by
      unfold scanned
      rw [if_pos rfl, Int.toNat_natCast]
    rw [hr]
    exact model_picks bd dc pts pks ofs a2 a3 L2 c2 L3 c3 N M po c8 n walk hh pk w hdc hdl hdIn hx3 hl3 h3In hof hol lN lM l3 hhN (by omega) pm
  · obtain ⟨p0, p1, pm⟩ := hwk e
    obtain ⟨wk, rfl⟩ : ∃ wk : Nat, walk = (wk : Int) := ⟨walk.toNat, by omega⟩
    have hr : scanned dc ofs pts pks N M n hh wk pick stp = scanPoints dc ofs N n hh stp (rot pts wk) := by
      unfold scanned
      rw [if_neg e, Int.toNat_natCast]
    rw [hr]
    exact model_points bd dc pts pks ofs a2 a3 L2 c2 L3 c3 N M po c8 n pick stp hh wk w hdc hdl hdIn hx2 hl2 h2In hof hol lN lM l2 hhN (by omega) pm e
#print axioms modelScan_any
end Go.Proofs.Qxb6604780a
