/-
  The walks of ZZMakeReach and of scan.
-/
import Derived.Test.Qxb6604780aScanp
import Derived.Test.Qxb6604780aDefer
import Derived.Test.Qxb6604780aScang
namespace Go.Proofs.Qxb6604780a
set_option linter.unusedSimpArgs false
set_option linter.unusedVariables false
open Go.RowKit

/-- The fields of a reach that scan reads. -/
structure ReachAt (w : World) (H R : Nat) (n holder walk pick : Int) (sb db N M : Nat) : Prop where
  c0 : w.cell? ⟨H, 0, none⟩ = some (.pointer (some ⟨R, 0, none⟩))
  c1 : w.cell? ⟨H, 1, none⟩ = some (.int .i64 n)
  c2 : w.cell? ⟨H, 2, none⟩ = some (.int .i64 holder)
  c4 : w.cell? ⟨H, 4, none⟩ = some (.int .i64 walk)
  c5 : w.cell? ⟨H, 5, none⟩ = some (.int .i64 pick)
  c8 : w.cell? ⟨H, 12, none⟩ = some (.slice (some ⟨sb, 0, none⟩) N N)
  c9 : w.cell? ⟨H, 13, none⟩ = some (.slice (some ⟨db, 0, none⟩) M M)
theorem ReachAt.of_block {w w' : World} {H R : Nat} {n holder walk pick : Int} {sb db N M : Nat} (h : ReachAt w H R n holder walk pick sb db N M) (e : w'.heap[H]? = w.heap[H]?) : ReachAt w' H R n holder walk pick sb db N M :=
  ⟨(cell_of_block e _).trans h.c0, (cell_of_block e _).trans h.c1, (cell_of_block e _).trans h.c2, (cell_of_block e _).trans h.c4, (cell_of_block e _).trans h.c5, (cell_of_block e _).trans h.c8, (cell_of_block e _).trans h.c9⟩

theorem cell_new (w : World) (cs : Array Value) (t : TypeId) (i : Nat) (v : Value) (h : cs[i]? = some v) : (w.alloc (.cells cs t)).cell? ⟨w.heap.size, i, none⟩ = some v := by
  unfold World.cell?
  rw [heap_alloc_new]
  exact h
theorem makeReach_any (R : Nat) (n holder walk pick : Int) (sb db N M : Nat) (w : World) :
    Calls Try.prog 21 #[.pointer (some ⟨R, 0, none⟩), .int .i64 n, .int .i64 holder, .int .i64 walk, .int .i64 pick, .slice (some ⟨sb, 0, none⟩) N N, .slice (some ⟨db, 0, none⟩) M M] w fun e w' =>
      e = .returned (.pointer (some ⟨w.heap.size, 0, none⟩)) ∧ ReachAt w' w.heap.size R n holder walk pick sb db N M ∧ Below w.heap.size w w' ∧ w'.heap.size = w.heap.size + 1 := by
  go_enter Try.func21, Try.ntmps21
  go_wp2
  go_ret
  refine ⟨rfl, ?_, (Below.refl _ _).alloc (Nat.le_refl _) _, by simp⟩
  constructor <;> exact cell_new _ _ _ _ _ rfl

/-- The flags of a slice cleared at the end. -/
theorem leaves_clear {fn : Func} {R : Ending → World → Prop} {a : Act} {w : World} {t : Tmp} (hres : fn.results = #[.tmp t]) {ty : TypeId} {con : Array Bool} {b n : Nat} {T : List Bool}
    (hd : a.defers = [{ target := .builtin .clear #[30] ty con, args := #[.slice (some ⟨b, 0, none⟩) n n] }]) (hn : 0 < n) (hO : Own Value.bool 4 w b n T)
    (hR : R (.returned (a.tmps.getD t undef)) (w.setCells b 0 (List.replicate n (.bool false)))) : bodyPostOne Try.prog fn R .ret a w := by
  refine ⟨_, _, _, _, _, .tuple #[], _, _, hd, rfl, ?_, results_tmp hres _ _ _, hR⟩
  show (do pure (Next.value (← Builtin.clear_ #[30] ty #[.slice (some ⟨b, 0, none⟩) n n])) : Sem Next).run Try.prog w = _
  simp only [Sem.run_bind, run_clear_flags w b n hn hO ty, Result.andThen_ok, Sem.run_pure]

/-- What scan works on. -/
structure ScanAt (w0 w : World) (K : Blks) (H R : Nat) (vn vm : Value) (bd : Nat) (dc : List Int) (bp : Nat) (pts : List Int) (ak : Option Addr) (pks : List Int) (pf : Bool) (n holder walk pick : Int) (T F : List Bool) : Prop where
  g : Ground w0 K R vn vm bd dc bp pts ak pks pf
  below : Below w0.heap.size w0 w
  reach : ReachAt w H R n holder walk pick K.kb K.hb K.N K.M
  ls : w0.heap.size ≤ K.kb
  ld : w0.heap.size ≤ K.hb
  nsd : K.kb ≠ K.hb
  nH : H ≠ K.kb
  nH2 : H ≠ K.hb
  seen : Own Value.bool 4 w K.kb K.N T
  dcs : Own Value.bool 4 w K.hb K.M F
  tl : T.length = K.N
  fl : F.length = K.M
section
variable {w0 w w' : World} {K : Blks} {H R : Nat} {vn vm : Value} {bd : Nat} {dc : List Int} {bp : Nat} {pts : List Int} {ak : Option Addr} {pks : List Int} {pf : Bool} {n holder walk pick : Int} {T F : List Bool}
theorem ScanAt.drewN (h : ScanAt w0 w K H R vn vm bd dc bp pts ak pks pf n holder walk pick T F) (q : Nat) : ScanAt w0 (w.drewN q) K H R vn vm bd dc bp pts ak pks pf n holder walk pick T F :=
  { h with below := below_drewN h.below q, reach := h.reach.of_block rfl, seen := h.seen.of_block rfl, dcs := h.dcs.of_block rfl }
theorem ScanAt.setD (h : ScanAt w0 w K H R vn vm bd dc bp pts ak pks pf n holder walk pick T F) (i : Nat) (b : Bool) : ScanAt w0 (w.setCell ⟨K.hb, i, none⟩ (.bool b)) K H R vn vm bd dc bp pts ak pks pf n holder walk pick T (F.set i b) :=
  { h with below := h.below.setCell (by exact h.ld) _, reach := h.reach.of_block (Below.heap_setCell _ _ _ _ h.nH2), seen := h.seen.other h.nsd _, dcs := h.dcs.set i b, fl := by simpa using h.fl }
theorem ScanAt.setS (h : ScanAt w0 w K H R vn vm bd dc bp pts ak pks pf n holder walk pick T F) (i : Nat) (b : Bool) : ScanAt w0 (w.setCell ⟨K.kb, i, none⟩ (.bool b)) K H R vn vm bd dc bp pts ak pks pf n holder walk pick (T.set i b) F :=
  { h with below := h.below.setCell (by exact h.ls) _, reach := h.reach.of_block (Below.heap_setCell _ _ _ _ h.nH), seen := h.seen.set i b, dcs := h.dcs.other h.nsd.symm _, tl := by simpa using h.tl }
theorem ScanAt.clearDN : ∀ (m o : Nat) (w : World) (F : List Bool), ScanAt w0 w K H R vn vm bd dc bp pts ak pks pf n holder walk pick T F → ScanAt w0 (w.setCells K.hb o (List.replicate m (.bool false))) K H R vn vm bd dc bp pts ak pks pf n holder walk pick T (clearN F o m)
  | 0, o, w, F, h => h
  | m + 1, o, w, F, h => by
    rw [List.replicate_succ, World.setCells]
    exact ScanAt.clearDN m (o + 1) _ _ (h.setD o false)
theorem ScanAt.clearSN : ∀ (m o : Nat) (w : World) (T : List Bool), ScanAt w0 w K H R vn vm bd dc bp pts ak pks pf n holder walk pick T F → ScanAt w0 (w.setCells K.kb o (List.replicate m (.bool false))) K H R vn vm bd dc bp pts ak pks pf n holder walk pick (clearN T o m) F
  | 0, o, w, T, h => h
  | m + 1, o, w, T, h => by
    rw [List.replicate_succ, World.setCells]
    exact ScanAt.clearSN m (o + 1) _ _ (h.setS o false)
theorem ScanAt.clearD (h : ScanAt w0 w K H R vn vm bd dc bp pts ak pks pf n holder walk pick T F) : ScanAt w0 (w.setCells K.hb 0 (List.replicate K.M (.bool false))) K H R vn vm bd dc bp pts ak pks pf n holder walk pick T (List.replicate K.M false) := by
  have := ScanAt.clearDN K.M 0 w F h
  rw [← h.fl, clearN_all] at this
  rw [← h.fl]
  exact this
theorem ScanAt.clearS (h : ScanAt w0 w K H R vn vm bd dc bp pts ak pks pf n holder walk pick T F) : ScanAt w0 (w.setCells K.kb 0 (List.replicate K.N (.bool false))) K H R vn vm bd dc bp pts ak pks pf n holder walk pick (List.replicate K.N false) F := by
  have := ScanAt.clearSN K.N 0 w T h
  rw [← h.tl, clearN_all] at this
  rw [← h.tl]
  exact this
end

set_option maxRecDepth 100000 in
set_option maxHeartbeats 2000000 in
theorem scan_picks (w0 w : World) (K : Blks) (H R : Nat) (vn vm : Value) (bd : Nat) (dc : List Int) (bp : Nat) (pts : List Int) (ak : Option Addr) (pks : List Int) (pf : Bool) (n walk : Int) (hh pk : Nat) (pb : Nat) (ofs : List Int)
    (hS : ScanAt w0 w K H R vn vm bd dc bp pts ak pks pf n hh walk pk (List.replicate K.N false) (List.replicate K.M false)) (hp : Reads (Value.int .u8) w (some ⟨pb, 0, none⟩) ofs) (hpl : ofs.length = K.N) (npb : pb ≠ K.hb)
    (hhN : hh < K.N) (hpk : pk < pks.length) (hmem : (hh : Int) ∈ pks) (hn : 1 ≤ n) :
    Calls Try.prog 33 #[.pointer (some ⟨H, 0, none⟩), .slice (some ⟨pb, 0, none⟩) K.N K.N, .int .i64 2] w fun e w' => e = .returned (.bool (scanPicks dc ofs K.M n hh (rot pks pk))) ∧ ScanAt w0 w' K H R vn vm bd dc bp pts ak pks pf n hh walk pk (List.replicate K.N false) (List.replicate K.M false) := by
  obtain ⟨seq, hseq⟩ : ∃ seq, seq = rot pks pk := ⟨_, rfl⟩
  have hms : (hh : Int) ∈ seq := by
    rw [hseq]
    unfold rot
    have := List.take_append_drop pk pks
    rw [← this] at hmem
    rcases List.mem_append.1 hmem with h | h
    · exact List.mem_append_right _ h
    · exact List.mem_append_left _ h
  obtain ⟨P, hP, hPh, hPn, hPa⟩ := ahead_split (hh : Int) seq hms
  have hsl : seq.length = pks.length := by rw [hseq]; exact rot_length pks pk (by omega)
  have hK := hS.g.nK
  have hN := hS.g.nN
  have hM := hS.g.nM
  obtain ⟨ow, how, howM⟩ := hS.g.dcIn.nat (j := hh) (by rw [hS.g.dl]; exact hhN)
  obtain ⟨Lk, hLk⟩ : ∃ Lk, Lk = pks.length := ⟨_, rfl⟩
  obtain ⟨bk, hbk, HPB⟩ : ∃ bk, ak = some ⟨bk, 0, none⟩ ∧ Hid (PtsAt w0 bk pks.length pks.length pks) := by
    rcases hS.g.ring.picks with ⟨_, e⟩ | ⟨bk, e, h⟩
    · rw [e] at hpk
      simp at hpk
    · exact ⟨bk, e, h⟩
  subst hbk
  have HSP : Hid (∀ j, j ≤ P → ∃ x : Nat, x < K.N ∧ (seq[j]? = some (x : Int)) ∧ pks.getD ((pk + j) % Lk) 0 = (x : Int)) := by
    intro j hj
    obtain ⟨x, hx, hxN⟩ := hS.g.pksIn.nat (j := (pk + j) % Lk) (by rw [← hLk]; exact Nat.mod_lt _ (by omega))
    refine ⟨x, hxN, ?_, hx⟩
    rw [hseq, rot_get? pks pk j hpk (by omega), ← hLk, ← hx, List.getD_eq_getElem?_getD]
    rw [List.getElem?_eq_getElem (by rw [← hLk]; exact Nat.mod_lt _ (by omega))]
    rfl
  have HLK := hide hLk
  have HRES : Hid (scanPicks dc ofs K.M n hh (rot pks pk) = (decide ((ow : Int) ∈ keysP dc ofs seq P) || decide (n ≤ (cnt K.M (keysP dc ofs seq P) : Int)))) := by
    unfold scanPicks keysP
    rw [← hseq, hPa, show dcAt dc (hh : Int) = (ow : Int) from how]
    exact rfl
  obtain ⟨res, hres⟩ : ∃ res, res = scanPicks dc ofs K.M n hh (rot pks pk) := ⟨_, rfl⟩
  rw [← hres] at HRES ⊢
  have HPH := hide hPh
  have HPN := hide hPn
  have HPL : Hid (P < Lk) := by rw [hLk, ← hsl]; exact hP
  have HS := hide hS
  have HP := hide hp
  have HPO := hide hpl
  have HNPB := hide npb
  have HOW := hide how
  obtain ⟨r2, r3, r4, r5, r6⟩ := (hS.g.ring.keep hS.below).cells
  rw [← hLk] at r5 hK hpk
  have k0 := hS.reach.c0
  have k2 := hS.reach.c2
  have k5 := hS.reach.c5
  have k9 := hS.reach.c9
  have co := (hS.g.dcs.keep hS.below).nat (i := hh) (by rw [hS.g.dl]; exact hhN)
  rw [how] at co
  have hhI : (hh : Int) < (K.N : Int) := by omega
  have HM0 := hide hS.g.m0
  clear hS hp hpl npb how hms hP hPh hPn hPa hmem hsl hLk hres
  refine calls_of_wp_one Try.func33 rfl ?_
  simp only [Try.ntmps33, List.size_toArray, List.length_cons, List.length_nil, Nat.reduceAdd, Nat.reduceSub, Array.replicate_succ, Array.replicate_zero, List.push_toArray, List.append_toArray, List.nil_append, List.cons_append]
  go_wp2_with fail
  go_quiet (fail)
  go_wp2_with fail
  go_loopg [9, 10, 11, 12] P (fun g s i x y wr => ∃ j mm : Nat, j + g = P ∧ i = .int .i64 (((pk + j) % Lk : Nat) : Int) ∧ s = .int .i64 (mm : Int) ∧ Hid (ScanAt w0 wr K H R vn vm bd dc bp pts (some ⟨bk, 0, none⟩) pks pf n hh walk pk (List.replicate K.N false) (flagsOf K.M (keysP dc ofs seq j))) ∧ Hid (wr.heap[pb]? = w.heap[pb]?) ∧ Hid (mm = cnt K.M (keysP dc ofs seq j)) ∧ Hid ((ow : Int) ∉ keysP dc ofs seq j) ∧ (mm : Int) < n)
  case atStart =>
    have e0 : keysP dc ofs seq 0 = [] := by simp [keysP, here]
    refine ⟨0, 0, by omega, by rw [Nat.add_zero, Nat.mod_eq_of_lt hpk], rfl, ?_, rfl, ?_, ?_, by omega⟩
    · rw [e0, flagsOf_nil]
      exact HS.out.drewN _
    · rw [e0, cnt_nil]
      exact rfl
    · rw [e0]
      exact List.not_mem_nil
  case round =>
    obtain ⟨j, mm, hj, rfl, rfl, hSA, hpbk, hmm, hno, hmn⟩ := hrel
    obtain ⟨x, hxN, hxs, hxp⟩ := HSP.out j (by omega)
    obtain ⟨i0, hi0⟩ : ∃ i0, i0 = (pk + j) % Lk := ⟨_, rfl⟩
    have hi0l : i0 < Lk := by rw [hi0]; exact Nat.mod_lt _ (by omega)
    rw [← hi0] at hxp ⊢
    have HXS := hide hxs
    have hi0I : (i0 : Int) < (Lk : Int) := by omega
    have hxI : (x : Int) < (K.N : Int) := by omega
    have cx := (HPB.out.keep hSA.out.below).node i0 (by rw [← HLK.out]; exact hi0l)
    rw [hxp] at cx
    obtain ⟨d, hd, hdM⟩ := hSA.out.g.dcIn.nat (j := x) (by rw [hSA.out.g.dl]; exact hxN)
    have cd := (hSA.out.g.dcs.keep hSA.out.below).nat (i := x) (by rw [hSA.out.g.dl]; exact hxN)
    rw [hd] at cd
    have HDD : Hid (dcAt dc (x : Int) = (d : Int)) := hd
    have hdI : (d : Int) < (K.M : Int) := by omega
    obtain ⟨q2, q3, q4, q5, q6⟩ := (hSA.out.g.ring.keep hSA.out.below).cells
    rw [← HLK.out] at q5
    have h0 := hSA.out.reach.c0
    have h1 := hSA.out.reach.c1
    have h2 := hSA.out.reach.c2
    have h9 := hSA.out.reach.c9
    have cp : wr.cell? ⟨pb, x, none⟩ = some (.int .u8 (ofs.getD x 0)) := by
      have := HP.out.at rfl (i := x) (by rw [HPO.out]; exact hxN)
      rw [Nat.zero_add] at this
      rw [cell_of_block hpbk.out, this, List.getD_eq_getElem?_getD, List.getElem?_eq_getElem (by rw [HPO.out]; exact hxN)]
      rfl
    obtain ⟨y, hy⟩ : ∃ y, y = ofs.getD x 0 := ⟨_, rfl⟩
    rw [← hy] at cp
    have HY := hide hy
    have hOwn := hide hSA.out.dcs
    have cf : wr.cell? ⟨K.hb, d, none⟩ = some (.bool ((flagsOf K.M (keysP dc ofs seq j)).getD d false)) := by
      rw [hSA.out.dcs.cell (i := d) (by rw [flagsOf_length]; exact hdM), List.getD_eq_getElem?_getD, List.getElem?_eq_getElem (by rw [flagsOf_length]; exact hdM)]
      rfl
    rw [flagsOf_get K.M _ d hdM] at cf
    have ff := hSA.out.dcs.frozen d
    have HKY : Hid (∀ b, (ofs.getD x 0 == 0) = b → ((ofs.getD ((x : Int).toNat) 0 == 0) = b)) := fun b h => by rw [Int.toNat_natCast]; exact h
    have htm : Int.tmod ((i0 : Int) + 1) (Lk : Int) = (((pk + (j + 1)) % Lk : Nat) : Int) := by
      have e : ((pk + (j + 1)) % Lk : Nat) = (i0 + 1) % Lk := by rw [hi0, Nat.mod_add_mod, Nat.add_assoc]
      rw [e, show ((i0 : Int) + 1) = ((i0 + 1 : Nat) : Int) by omega]
      exact (Int.ofNat_tmod _ _)
    have hL0 : ¬ ((Lk : Int) = 0) := by omega
    clear hi0 hxp hd hy
    by_cases hjP : j = P
    case pos =>
      have hxh : (x : Int) = (hh : Int) := by
        have a1 := HXS.out
        rw [hjP, HPH.out] at a1
        exact (Option.some.inj a1).symm
      have t1 : ((x : Int) == (hh : Int)) = true := by simpa using hxh
      have t2 : (!((x : Int) == (hh : Int))) = false := by rw [t1]; rfl
      have HRF : Hid (res = false) := by
        rw [HRES.out, ← hjP, ← hmm.out]
        rw [decide_eq_false hno.out, decide_eq_false (by omega)]
        exact rfl
      clear hxs hxh
      go_wp2_with fail
      go_quiet (fail)
      go_wp2_with fail
      (try simp only [Exit.inBlock, Exit.then])
      refine leaves_clear (t := 6) rfl rfl HM0.out (hOwn.out.of_block rfl) ?_
      exact ⟨by rw [HRF.out]; rfl, (hSA.out.drewN _).clearD⟩
    have hxh : (x : Int) ≠ (hh : Int) := HPN.out j x (by omega) HXS.out
    have t1 : ((x : Int) == (hh : Int)) = false := by simpa using hxh
    have t2 : (!((x : Int) == (hh : Int))) = true := by rw [t1]; rfl
    clear hxs hxh
    by_cases hy0 : y = 0
    case neg =>
      have u1 : (y == 0) = false := by simpa using hy0
      have HE : Hid (keysP dc ofs seq (j + 1) = keysP dc ofs seq j) := keysP_no HXS.out (HKY.out _ (by rw [← HY.out]; exact u1))
      clear hy0
      go_wp2_with fail
      go_quiet (fail)
      go_wp2_with fail
      go_roundg (P - (j + 1))
      case measure => omega
      case rel =>
        refine ⟨j + 1, mm, by omega, rfl, rfl, ?_, hpbk, ?_, ?_, hmn⟩
        · rw [HE.out]; exact hSA.out.drewN _
        · rw [HE.out]; exact hmm
        · rw [HE.out]; exact hno
    have u1 : (y == 0) = true := by simpa using hy0
    have HE : Hid (keysP dc ofs seq (j + 1) = keysP dc ofs seq j ++ [(d : Int)]) := by
      have := keysP_yes (dc := dc) HXS.out (HKY.out _ (by rw [← HY.out]; exact u1))
      rw [HDD.out] at this
      exact this
    subst hy0
    by_cases hin : (d : Int) ∈ keysP dc ofs seq j
    case pos =>
      have hb : decide ((d : Int) ∈ keysP dc ofs seq j) = true := decide_eq_true hin
      rw [hb] at cf
      have HIN := hide hin
      clear hin hb
      go_wp2_with fail
      go_quiet (fail)
      go_wp2_with fail
      go_roundg (P - (j + 1))
      case measure => omega
      case rel =>
        refine ⟨j + 1, mm, by omega, rfl, rfl, ?_, hpbk, ?_, ?_, hmn⟩
        · rw [HE.out, flagsOf_same _ _ _ HIN.out]; exact hSA.out.drewN _
        · rw [HE.out, cnt_same _ _ _ HIN.out]; exact hmm
        · rw [HE.out]
          intro h
          rcases List.mem_append.1 h with h | h
          · exact hno.out h
          · rw [List.mem_singleton.1 h] at hno
            exact hno.out HIN.out
    have hb : decide ((d : Int) ∈ keysP dc ofs seq j) = false := decide_eq_false hin
    rw [hb] at cf
    have HIN := hide hin
    clear hin hb
    by_cases hdo : (d : Int) = (ow : Int)
    case pos =>
      have v1 : ((d : Int) == (ow : Int)) = true := by simpa using hdo
      have HRT : Hid (res = true) := by
        rw [HRES.out, decide_eq_true (keysP_le (i := j + 1) (by omega) _ (by rw [HE.out, hdo]; exact List.mem_append_right _ (List.mem_singleton.2 rfl)))]
        exact rfl
      clear hdo
      go_wp2_with fail
      go_quiet (fail)
      go_wp2_with fail
      (try simp only [Exit.inBlock, Exit.then])
      refine leaves_clear (t := 6) rfl rfl HM0.out (hOwn.out.of_block rfl) ?_
      exact ⟨by rw [HRT.out]; rfl, (hSA.out.drewN _).clearD⟩
    have v1 : ((d : Int) == (ow : Int)) = false := by simpa using hdo
    have HDO := hide hdo
    clear hdo
    have hmb : mm ≤ 65536 := by have := cnt_le K.M (keysP dc ofs seq j); rw [← hmm.out] at this; omega
    have HM1 : Hid (mm + 1 = cnt K.M (keysP dc ofs seq (j + 1))) := by rw [HE.out, cnt_new K.M _ d hdM HIN.out, ← hmm.out]; exact rfl
    have HSET : Hid (∀ q, ScanAt w0 ((wr.drewN q).setCell ⟨K.hb, d, none⟩ (.bool true)) K H R vn vm bd dc bp pts (some ⟨bk, 0, none⟩) pks pf n hh walk pk (List.replicate K.N false) (flagsOf K.M (keysP dc ofs seq (j + 1)))) := by
      intro q
      have := (hSA.out.drewN q).setD d true
      rw [flagsOf_set K.M _ d hdM, ← HE.out] at this
      exact this
    by_cases hge : n ≤ (mm : Int) + 1
    case pos =>
      have z1 : decide (n ≤ (mm : Int) + 1) = true := by simpa using hge
      have HRT : Hid (res = true) := by
        rw [HRES.out, Bool.or_eq_true]
        right
        have a1 := cnt_mono K.M (keysP_le (dc := dc) (ofs := ofs) (seq := seq) (i := j + 1) (P := P) (by omega))
        rw [← HM1.out] at a1
        exact decide_eq_true (by omega)
      go_wp2_with fail
      go_quiet (fail)
      have g1 := (HSET.out nq).reach.c1
      have hO2 := hide (HSET.out nq).dcs
      go_wp2_with fail
      (try simp only [Exit.inBlock, Exit.then])
      refine leaves_clear (t := 6) rfl rfl HM0.out hO2.out ?_
      exact ⟨by rw [HRT.out]; rfl, (HSET.out nq).clearD⟩
    case neg =>
      have z1 : decide (n ≤ (mm : Int) + 1) = false := by simpa using hge
      go_wp2_with fail
      go_quiet (fail)
      have g1 := (HSET.out nq).reach.c1
      obtain ⟨_, _, _, g5, _⟩ := ((HSET.out nq).g.ring.keep (HSET.out nq).below).cells
      rw [← HLK.out] at g5
      go_wp2_with fail
      go_roundg (P - (j + 1))
      case measure => omega
      case rel =>
        refine ⟨j + 1, mm + 1, by omega, rfl, by go_num, HSET.out nq, ?_, HM1.out, ?_, by omega⟩
        · exact (Below.heap_setCell _ _ _ _ HNPB.out).trans hpbk.out
        · rw [HE.out]
          intro h
          rcases List.mem_append.1 h with h | h
          · exact hno.out h
          · exact HDO.out (List.mem_singleton.1 h).symm


set_option maxRecDepth 100000 in
set_option maxHeartbeats 2000000 in
theorem scan_points (w0 w : World) (K : Blks) (H R : Nat) (vn vm : Value) (bd : Nat) (dc : List Int) (bp : Nat) (pts : List Int) (ak : Option Addr) (pks : List Int) (pf : Bool) (n pick stp : Int) (hh wk : Nat) (pb : Nat) (ofs : List Int)
    (hS : ScanAt w0 w K H R vn vm bd dc bp pts ak pks pf n hh wk pick (List.replicate K.N false) (List.replicate K.M false)) (hp : Reads (Value.int .u8) w (some ⟨pb, 0, none⟩) ofs) (hpl : ofs.length = K.N) (npb : pb ≠ K.kb) (hst : stp ≠ 2)
    (hhN : hh < K.N) (hpk : wk < pts.length) (hmem : (hh : Int) ∈ pts) (hn : 1 ≤ n) :
    Calls Try.prog 33 #[.pointer (some ⟨H, 0, none⟩), .slice (some ⟨pb, 0, none⟩) K.N K.N, (.int .i64 stp)] w fun e w' => e = .returned (.bool (scanPoints dc ofs K.N n hh stp (rot pts wk))) ∧ ScanAt w0 w' K H R vn vm bd dc bp pts ak pks pf n hh wk pick (List.replicate K.N false) (List.replicate K.M false) := by
  obtain ⟨seq, hseq⟩ : ∃ seq, seq = rot pts wk := ⟨_, rfl⟩
  have hms : (hh : Int) ∈ seq := by
    rw [hseq]
    unfold rot
    have := List.take_append_drop wk pts
    rw [← this] at hmem
    rcases List.mem_append.1 hmem with h | h
    · exact List.mem_append_right _ h
    · exact List.mem_append_left _ h
  obtain ⟨P, hP, hPh, hPn, hPa⟩ := ahead_split (hh : Int) seq hms
  have hsl : seq.length = pts.length := by rw [hseq]; exact rot_length pts wk (by omega)
  have hK := hS.g.nP
  have hN := hS.g.nN
  have hM := hS.g.nM
  obtain ⟨ow, how, howM⟩ := hS.g.dcIn.nat (j := hh) (by rw [hS.g.dl]; exact hhN)
  obtain ⟨Lk, hLk⟩ : ∃ Lk, Lk = pts.length := ⟨_, rfl⟩
  have HPB := hide hS.g.ring.points
  have HSP : Hid (∀ j, j ≤ P → ∃ x : Nat, x < K.N ∧ (seq[j]? = some (x : Int)) ∧ pts.getD ((wk + j) % Lk) 0 = (x : Int)) := by
    intro j hj
    obtain ⟨x, hx, hxN⟩ := hS.g.ptsIn.nat (j := (wk + j) % Lk) (by rw [← hLk]; exact Nat.mod_lt _ (by omega))
    refine ⟨x, hxN, ?_, hx⟩
    rw [hseq, rot_get? pts wk j hpk (by omega), ← hLk, ← hx, List.getD_eq_getElem?_getD]
    rw [List.getElem?_eq_getElem (by rw [← hLk]; exact Nat.mod_lt _ (by omega))]
    rfl
  have HLK := hide hLk
  have HRES : Hid (scanPoints dc ofs K.N n hh stp (rot pts wk) = (decide (n ≤ (cnt K.N (here ofs (seq.take P)) : Int)) && (decide (stp = 0) || decide ((ow : Int) ∈ keysP dc ofs seq P)))) := by
    unfold scanPoints keysP
    rw [← hseq, hPa, show dcAt dc (hh : Int) = (ow : Int) from how]
    exact rfl
  obtain ⟨res, hres⟩ : ∃ res, res = scanPoints dc ofs K.N n hh stp (rot pts wk) := ⟨_, rfl⟩
  rw [← hres] at HRES ⊢
  have HPH := hide hPh
  have HPN := hide hPn
  have HPL : Hid (P < Lk) := by rw [hLk, ← hsl]; exact hP
  have HS := hide hS
  have HP := hide hp
  have HPO := hide hpl
  have HNPB := hide npb
  have HOW := hide how
  obtain ⟨r2, r3, r4, r5, r6⟩ := (hS.g.ring.keep hS.below).cells
  rw [← hLk] at r4 hK hpk
  have k0 := hS.reach.c0
  have k2 := hS.reach.c2
  have k4 := hS.reach.c4
  have k8 := hS.reach.c8
  have co := (hS.g.dcs.keep hS.below).nat (i := hh) (by rw [hS.g.dl]; exact hhN)
  rw [how] at co
  have hhI : (hh : Int) < (K.N : Int) := by omega
  have HM0 : Hid (0 < K.N) := (by omega : 0 < K.N)
  have hst' : (stp == 2) = false := by simpa using hst
  clear hS hp hpl npb hst how hms hP hPh hPn hPa hmem hsl hLk hres
  refine calls_of_wp_one Try.func33 rfl ?_
  simp only [Try.ntmps33, List.size_toArray, List.length_cons, List.length_nil, Nat.reduceAdd, Nat.reduceSub, Array.replicate_succ, Array.replicate_zero, List.push_toArray, List.append_toArray, List.nil_append, List.cons_append]
  go_wp2_with fail
  go_quiet (fail)
  go_wp2_with fail
  go_loopg [13, 14, 15, 16] P (fun g s t i x wr => ∃ (j mm : Nat) (o : Bool), j + g = P ∧ i = .int .i64 (((wk + j) % Lk : Nat) : Int) ∧ s = .int .i64 (mm : Int) ∧ t = .bool o ∧ Hid (ScanAt w0 wr K H R vn vm bd dc bp pts ak pks pf n hh wk pick (flagsOf K.N (here ofs (seq.take j))) (List.replicate K.M false)) ∧ Hid (wr.heap[pb]? = w.heap[pb]?) ∧ Hid (mm = cnt K.N (here ofs (seq.take j))) ∧ Hid (o = decide ((ow : Int) ∈ keysP dc ofs seq j)) ∧ Hid (¬ (n ≤ (mm : Int) ∧ (stp = 0 ∨ o = true))))
  case atStart =>
    have e0 : here ofs (seq.take 0) = [] := by simp [here]
    have e1 : keysP dc ofs seq 0 = [] := by simp [keysP, here]
    refine ⟨0, 0, false, by omega, by rw [Nat.add_zero, Nat.mod_eq_of_lt hpk], rfl, rfl, ?_, rfl, ?_, ?_, fun h => by omega⟩
    · rw [e0, flagsOf_nil]
      exact HS.out.drewN _
    · rw [e0, cnt_nil]
      exact rfl
    · rw [e1]
      exact (decide_eq_false List.not_mem_nil).symm
  case round =>
    obtain ⟨j, mm, o, hj, rfl, rfl, rfl, hSA, hpbk, hmm, ho, hnr⟩ := hrel
    obtain ⟨x, hxN, hxs, hxp⟩ := HSP.out j (by omega)
    obtain ⟨i0, hi0⟩ : ∃ i0, i0 = (wk + j) % Lk := ⟨_, rfl⟩
    have hi0l : i0 < Lk := by rw [hi0]; exact Nat.mod_lt _ (by omega)
    rw [← hi0] at hxp ⊢
    have HXS := hide hxs
    have hi0I : (i0 : Int) < (Lk : Int) := by omega
    have hxI : (x : Int) < (K.N : Int) := by omega
    have cx := (HPB.out.keep hSA.out.below).node i0 (by rw [← HLK.out]; exact hi0l)
    rw [hxp] at cx
    obtain ⟨d, hd, hdM⟩ := hSA.out.g.dcIn.nat (j := x) (by rw [hSA.out.g.dl]; exact hxN)
    have cd := (hSA.out.g.dcs.keep hSA.out.below).nat (i := x) (by rw [hSA.out.g.dl]; exact hxN)
    rw [hd] at cd
    have HDD : Hid (dcAt dc (x : Int) = (d : Int)) := hd
    have hdI : (d : Int) < (K.M : Int) := by omega
    obtain ⟨q2, q3, q4, q5, q6⟩ := (hSA.out.g.ring.keep hSA.out.below).cells
    rw [← HLK.out] at q4
    have h0 := hSA.out.reach.c0
    have h1 := hSA.out.reach.c1
    have h2 := hSA.out.reach.c2
    have h8 := hSA.out.reach.c8
    have cp : wr.cell? ⟨pb, x, none⟩ = some (.int .u8 (ofs.getD x 0)) := by
      have := HP.out.at rfl (i := x) (by rw [HPO.out]; exact hxN)
      rw [Nat.zero_add] at this
      rw [cell_of_block hpbk.out, this, List.getD_eq_getElem?_getD, List.getElem?_eq_getElem (by rw [HPO.out]; exact hxN)]
      rfl
    obtain ⟨y, hy⟩ : ∃ y, y = ofs.getD x 0 := ⟨_, rfl⟩
    rw [← hy] at cp
    have HY := hide hy
    have hOwn := hide hSA.out.seen
    have cf : wr.cell? ⟨K.kb, x, none⟩ = some (.bool ((flagsOf K.N (here ofs (seq.take j))).getD x false)) := by
      rw [hSA.out.seen.cell (i := x) (by rw [flagsOf_length]; exact hxN), List.getD_eq_getElem?_getD, List.getElem?_eq_getElem (by rw [flagsOf_length]; exact hxN)]
      rfl
    rw [flagsOf_get K.N _ x hxN] at cf
    have ff := hSA.out.seen.frozen x
    have HKY : Hid (∀ b, (ofs.getD x 0 == 0) = b → ((ofs.getD ((x : Int).toNat) 0 == 0) = b)) := fun b h => by rw [Int.toNat_natCast]; exact h
    have htm : Int.tmod ((i0 : Int) + 1) (Lk : Int) = (((wk + (j + 1)) % Lk : Nat) : Int) := by
      have e : ((wk + (j + 1)) % Lk : Nat) = (i0 + 1) % Lk := by rw [hi0, Nat.mod_add_mod, Nat.add_assoc]
      rw [e, show ((i0 : Int) + 1) = ((i0 + 1 : Nat) : Int) by omega]
      exact (Int.ofNat_tmod _ _)
    have hL0 : ¬ ((Lk : Int) = 0) := by omega
    clear hi0 hxp hd hy
    by_cases hjP : j = P
    case pos =>
      have hxh : (x : Int) = (hh : Int) := by
        have a1 := HXS.out
        rw [hjP, HPH.out] at a1
        exact (Option.some.inj a1).symm
      have t1 : ((x : Int) == (hh : Int)) = true := by simpa using hxh
      have t2 : (!((x : Int) == (hh : Int))) = false := by rw [t1]; rfl
      have HRF : Hid (res = false) := by
        rw [HRES.out, ← hjP, ← hmm.out, ← ho.out]
        cases h1 : (decide (n ≤ (mm : Int)) && (decide (stp = 0) || o)) with
        | false => exact rfl
        | true =>
          exfalso
          rw [Bool.and_eq_true, Bool.or_eq_true, decide_eq_true_eq, decide_eq_true_eq] at h1
          exact hnr.out h1
      clear hxs hxh
      go_wp2_with fail
      go_quiet (fail)
      go_wp2_with fail
      (try simp only [Exit.inBlock, Exit.then])
      refine leaves_clear (t := 6) rfl rfl HM0.out (hOwn.out.of_block rfl) ?_
      exact ⟨by rw [HRF.out]; rfl, (hSA.out.drewN _).clearS⟩
    have hxh : (x : Int) ≠ (hh : Int) := HPN.out j x (by omega) HXS.out
    have t1 : ((x : Int) == (hh : Int)) = false := by simpa using hxh
    have t2 : (!((x : Int) == (hh : Int))) = true := by rw [t1]; rfl
    have hmb : mm ≤ 32768 := by have := cnt_le K.N (here ofs (seq.take j)); rw [← hmm.out] at this; omega
    clear hxs hxh
    go_wp2_with fail
    go_quiet (fail)
    obtain ⟨w3, hw3⟩ : ∃ w3, w3 = wr.drewN nq := ⟨_, rfl⟩
    have hS3 := hSA.out.drewN nq
    rw [← hw3] at hS3 ⊢
    have c1 : w3.cell? ⟨pb, x, none⟩ = some (.int .u8 y) := by rw [hw3]; exact cp
    have c2 : w3.cell? ⟨K.kb, x, none⟩ = some (.bool (decide ((x : Int) ∈ here ofs (seq.take j)))) := by rw [hw3]; exact cf
    have c3 : w3.frozen? ⟨K.kb, x, none⟩ = false := by rw [hw3]; exact ff
    have c4 : w3.cell? ⟨bd, x, none⟩ = some (.int .i64 (d : Int)) := by rw [hw3]; exact cd
    have c5 : w3.cell? ⟨bp, i0 * 2 + 1, none⟩ = some (.int .i64 (x : Int)) := by rw [hw3]; exact cx
    have HPB3 : Hid (w3.heap[pb]? = w.heap[pb]?) := by rw [hw3]; exact hpbk
    obtain ⟨g2, _, g4, _, _⟩ := (hS3.g.ring.keep hS3.below).cells
    rw [← HLK.out] at g4
    have g8 := hS3.reach.c8
    have HS3 := hide hS3
    clear hw3 hS3 cp cf ff cd cx q2 q3 q4 q5 q6 h0 h1 h2 h8 hOwn hSA hpbk
    obtain ⟨sn, hsn⟩ : ∃ sn, sn = decide ((x : Int) ∈ here ofs (seq.take j)) := ⟨_, rfl⟩
    rw [← hsn] at c2
    have HSN := hide hsn
    clear hsn
    obtain ⟨c, hc⟩ : ∃ c, c = ((y == 0) && !sn) := ⟨_, rfl⟩
    have HC := hide hc
    clear hc
    go_upto_region 24 with fail
    go_cut [163] from 132 to 163 (fun s wx => s = .bool c ∧ wx = w3)
    case first =>
      by_cases hy0 : y = 0
      · have u1 : (y == 0) = true := by simpa using hy0
        have HCE : Hid (c = !sn) := by rw [HC.out, u1]; exact rfl
        subst hy0
        clear HC
        cases sn
        · go_wp2_with fail
          go_meet
          case rel => exact ⟨by rw [HCE.out]; rfl, rfl⟩
        · go_wp2_with fail
          go_meet
          case rel => exact ⟨by rw [HCE.out]; rfl, rfl⟩
      · have u1 : (y == 0) = false := by simpa using hy0
        have HCE : Hid (c = false) := by rw [HC.out, u1]; exact rfl
        clear HC hy0
        go_wp2_with fail
        go_meet
        case rel => exact ⟨by rw [HCE.out], rfl⟩
    case rest =>
    obtain ⟨rfl, rfl⟩ := hcut
    obtain ⟨w3, rfl⟩ : ∃ w3, w3 = wc := ⟨_, rfl⟩
    have HNW : Hid (c = true → (ofs.getD ((x : Int).toNat) 0 == 0) = true ∧ (x : Int) ∉ here ofs (seq.take j)) := by
      intro h
      rw [HC.out, Bool.and_eq_true] at h
      refine ⟨HKY.out _ (by rw [← HY.out]; exact h.1), ?_⟩
      have h2 := h.2
      rw [HSN.out] at h2
      simpa using h2
    have HOLD : Hid (c = false → here ofs (seq.take (j + 1)) = here ofs (seq.take j) ∨ (here ofs (seq.take (j + 1)) = here ofs (seq.take j) ++ [(x : Int)] ∧ (x : Int) ∈ here ofs (seq.take j) ∧ keysP dc ofs seq (j + 1) = keysP dc ofs seq j ++ [(d : Int)])) := by
      intro h
      rw [HC.out] at h
      cases hy : (y == 0) with
      | false => exact .inl (here_no HXS.out (HKY.out _ (by rw [← HY.out]; exact hy)))
      | true =>
        right
        have hy' : (ofs.getD ((x : Int).toNat) 0 == 0) = true := HKY.out _ (by rw [← HY.out]; exact hy)
        rw [hy, HSN.out] at h
        refine ⟨here_yes HXS.out hy', by simpa using h, ?_⟩
        have := keysP_yes (dc := dc) HXS.out hy'
        rw [HDD.out] at this
        exact this
    go_upto_if 163 with fail
    go_cut [13, 14] from 132 to 183 (fun s t wx => ∃ (mm' : Nat) (o' : Bool), s = .int .i64 (mm' : Int) ∧ t = .bool o' ∧ Hid (ScanAt w0 wx K H R vn vm bd dc bp pts ak pks pf n hh wk pick (flagsOf K.N (here ofs (seq.take (j + 1)))) (List.replicate K.M false)) ∧ Hid (wx.heap[pb]? = w.heap[pb]?) ∧ Hid (mm' = cnt K.N (here ofs (seq.take (j + 1)))) ∧ Hid (o' = decide ((ow : Int) ∈ keysP dc ofs seq (j + 1))))
    case first =>
      cases c
      · have hold := HOLD.out rfl
        have HE1 : Hid (flagsOf K.N (here ofs (seq.take (j + 1))) = flagsOf K.N (here ofs (seq.take j))) := by
          rcases hold with e | ⟨e, hi, _⟩
          · rw [e]; exact rfl
          · rw [e]; exact flagsOf_same _ _ _ hi
        have HE2 : Hid (cnt K.N (here ofs (seq.take (j + 1))) = cnt K.N (here ofs (seq.take j))) := by
          rcases hold with e | ⟨e, hi, _⟩
          · rw [e]; exact rfl
          · rw [e]; exact cnt_same _ _ _ hi
        have HE3 : Hid (decide ((ow : Int) ∈ keysP dc ofs seq (j + 1)) = decide ((ow : Int) ∈ keysP dc ofs seq j)) := by
          rcases hold with e | ⟨e, hi, e3⟩
          · unfold keysP
            rw [e]
            exact rfl
          · have hd : (d : Int) ∈ keysP dc ofs seq j := List.mem_map.2 ⟨_, hi, HDD.out⟩
            rw [e3]
            have : ((ow : Int) ∈ keysP dc ofs seq j ++ [(d : Int)]) ↔ (ow : Int) ∈ keysP dc ofs seq j := by
              rw [List.mem_append, List.mem_singleton]
              exact ⟨fun h => h.elim id (fun h => by rw [h]; exact hd), .inl⟩
            exact decide_eq_decide.2 this
        clear hold HC HNW HOLD
        go_wp2_with fail
        go_meet
        case rel => exact ⟨mm, o, rfl, rfl, by rw [HE1.out]; exact HS3, HPB3, by rw [HE2.out]; exact hmm, by rw [HE3.out]; exact ho⟩
      · obtain ⟨hpr, hni⟩ := HNW.out rfl
        have HE1 := hide (here_yes HXS.out hpr)
        have HE3 : Hid (keysP dc ofs seq (j + 1) = keysP dc ofs seq j ++ [(d : Int)]) := by
          have := keysP_yes (dc := dc) HXS.out hpr
          rw [HDD.out] at this
          exact this
        have HM1 : Hid (mm + 1 = cnt K.N (here ofs (seq.take (j + 1)))) := by rw [HE1.out, cnt_new K.N _ x hxN hni, ← hmm.out]; exact rfl
        have hst := HS3.out.setS x true
        rw [flagsOf_set K.N _ x hxN, ← HE1.out] at hst
        have HPB4 : Hid ((w3.setCell ⟨K.kb, x, none⟩ (.bool true)).heap[pb]? = w.heap[pb]?) := (Below.heap_setCell _ _ _ _ HNPB.out).trans HPB3.out
        obtain ⟨i2, _, _, _, _⟩ := (hst.g.ring.keep hst.below).cells
        have i8 := (hst.g.dcs.keep hst.below).nat (i := x) (by rw [hst.g.dl]; exact hxN)
        have hdd : dc.getD x 0 = (d : Int) := HDD.out
        rw [hdd] at i8
        have HST := hide hst
        have HO1 : Hid (o = true → true = decide ((ow : Int) ∈ keysP dc ofs seq (j + 1))) := by
          intro h
          rw [HE3.out]
          rw [ho.out, decide_eq_true_eq] at h
          exact (decide_eq_true (List.mem_append_left _ h)).symm
        have HO2 : Hid (o = false → ((d : Int) == (ow : Int)) = decide ((ow : Int) ∈ keysP dc ofs seq (j + 1))) := by
          intro h
          rw [ho.out, decide_eq_false_iff_not] at h
          rw [HE3.out]
          by_cases e : (d : Int) = (ow : Int)
          · rw [decide_eq_true (List.mem_append_right _ (List.mem_singleton.2 e.symm))]
            simpa using e
          · rw [decide_eq_false (fun hm => (List.mem_append.1 hm).elim h (fun h2 => e (List.mem_singleton.1 h2).symm))]
            simpa using e
        clear hpr hni hst HC HNW HOLD hdd
        cases o
        · have HO3 := hide (HO2.out rfl)
          clear HO1 HO2
          go_wp2_with fail
          go_meet
          case rel => exact ⟨mm + 1, _, by go_num, rfl, HST, HPB4, HM1, HO3⟩
        · have HO3 := hide (HO1.out rfl)
          clear HO1 HO2
          go_wp2_with fail
          go_meet
          case rel => exact ⟨mm + 1, true, by go_num, rfl, HST, HPB4, HM1, HO3⟩
    case rest =>
    obtain ⟨mm', o', rfl, rfl, HS4, HPB4, HM4, HO4⟩ := hcut
    obtain ⟨w4, rfl⟩ : ∃ w4, w4 = wc := ⟨_, rfl⟩
    have j1 := HS4.out.reach.c1
    obtain ⟨_, _, j4, _, _⟩ := (HS4.out.g.ring.keep HS4.out.below).cells
    rw [← HLK.out] at j4
    have HOW4 := hide HS4.out.seen
    clear HC HNW HOLD HSN c1 c2 c3 c4 c5 g2 g4 g8 HS3 HPB3 hmm ho hnr
    by_cases hyes : n ≤ (mm' : Int) ∧ (stp = 0 ∨ o' = true)
    case pos =>
      have HRT : Hid (res = true) := by
        rw [HRES.out, Bool.and_eq_true, Bool.or_eq_true, decide_eq_true_eq, decide_eq_true_eq, decide_eq_true_eq]
        refine ⟨?_, hyes.2.imp id fun h => ?_⟩
        · have a1 := cnt_mono K.N (here_take (ofs := ofs) (seq := seq) (i := j + 1) (P := P) (by omega))
          rw [← HM4.out] at a1
          have := hyes.1
          omega
        · rw [HO4.out, decide_eq_true_eq] at h
          exact keysP_le (i := j + 1) (by omega) _ h
      have z1 : decide (n ≤ (mm' : Int)) = true := decide_eq_true hyes.1
      have hor := hyes.2
      clear hyes
      cases o'
      · have hs0 : stp = 0 := hor.resolve_right (by simp)
        have z2 : (stp == 0) = true := by simpa using hs0
        clear hor hs0
        go_wp2_with fail
        (try simp only [Exit.inBlock, Exit.then])
        refine leaves_clear (t := 6) rfl rfl HM0.out HOW4.out ?_
        exact ⟨by rw [HRT.out]; rfl, HS4.out.clearS⟩
      · clear hor
        go_wp2_with fail
        (try simp only [Exit.inBlock, Exit.then])
        refine leaves_clear (t := 6) rfl rfl HM0.out HOW4.out ?_
        exact ⟨by rw [HRT.out]; rfl, HS4.out.clearS⟩
    case neg =>
      have HNY := hide hyes
      by_cases hge : n ≤ (mm' : Int)
      · have z1 : decide (n ≤ (mm' : Int)) = true := by simpa using hge
        have z3 : o' = false := by
          cases o' with
          | false => rfl
          | true => exact absurd ⟨hge, .inr rfl⟩ hyes
        have z2 : (stp == 0) = false := by
          have : stp ≠ 0 := fun e => hyes ⟨hge, .inl e⟩
          simpa using this
        clear hyes hge
        subst z3
        go_wp2_with fail
        go_roundg (P - (j + 1))
        case measure => omega
        case rel => exact ⟨j + 1, mm', false, by omega, rfl, rfl, rfl, HS4, HPB4, HM4, HO4, HNY⟩
      · have z1 : decide (n ≤ (mm' : Int)) = false := by simpa using hge
        clear hyes hge
        go_wp2_with fail
        go_roundg (P - (j + 1))
        case measure => omega
        case rel => exact ⟨j + 1, mm', o', by omega, rfl, rfl, rfl, HS4, HPB4, HM4, HO4, HNY⟩

theorem ScanAt.keep {w0 w w' : World} {K : Blks} {H R : Nat} {vn vm : Value} {bd : Nat} {dc : List Int} {bp : Nat} {pts : List Int} {ak : Option Addr} {pks : List Int} {pf : Bool} {n holder walk pick : Int} {T F : List Bool} (h : ScanAt w0 w K H R vn vm bd dc bp pts ak pks pf n holder walk pick T F) (hb : Below w.heap.size w w') : ScanAt w0 w' K H R vn vm bd dc bp pts ak pks pf n holder walk pick T F :=
  { h with below := h.below.trans (hb.mono h.below.size), reach := h.reach.of_block (hb.block _ (lt_of_cell h.reach.c0)), seen := h.seen.keep hb, dcs := h.dcs.keep hb }

/-- scan, whatever its step. -/
theorem scan_any (w0 w : World) (K : Blks) (H R : Nat) (vn vm : Value) (bd : Nat) (dc : List Int) (bp : Nat) (pts : List Int) (ak : Option Addr) (pks : List Int) (pf : Bool) (n walk pick stp : Int) (hh : Nat) (pb : Nat) (ofs : List Int)
    (hS : ScanAt w0 w K H R vn vm bd dc bp pts ak pks pf n hh walk pick (List.replicate K.N false) (List.replicate K.M false)) (hp : Reads (Value.int .u8) w (some ⟨pb, 0, none⟩) ofs) (hpl : ofs.length = K.N) (npb : pb ≠ K.kb ∧ pb ≠ K.hb)
    (hhN : hh < K.N) (hn : 1 ≤ n) (hpk : stp = 2 → 0 ≤ pick ∧ pick < pks.length ∧ (hh : Int) ∈ pks) (hwk : stp ≠ 2 → 0 ≤ walk ∧ walk < pts.length ∧ (hh : Int) ∈ pts) :
    Calls Try.prog 33 #[.pointer (some ⟨H, 0, none⟩), .slice (some ⟨pb, 0, none⟩) K.N K.N, .int .i64 stp] w fun e w' => e = .returned (.bool (scanned dc ofs pts pks K.N K.M n hh walk pick stp)) ∧ ScanAt w0 w' K H R vn vm bd dc bp pts ak pks pf n hh walk pick (List.replicate K.N false) (List.replicate K.M false) := by
  by_cases e : stp = 2
  · subst e
    obtain ⟨p0, p1, pm⟩ := hpk rfl
    obtain ⟨pk, rfl⟩ : ∃ pk : Nat, pick = (pk : Int) := ⟨pick.toNat, by omega⟩
    have hr : scanned dc ofs pts pks K.N K.M n hh walk pk 2 = scanPicks dc ofs K.M n hh (rot pks pk) := by
      unfold scanned
      rw [if_pos rfl, Int.toNat_natCast]
    rw [hr]
    exact scan_picks w0 w K H R vn vm bd dc bp pts ak pks pf n walk hh pk pb ofs hS hp hpl npb.2 hhN (by omega) pm hn
  · obtain ⟨p0, p1, pm⟩ := hwk e
    obtain ⟨wk, rfl⟩ : ∃ wk : Nat, walk = (wk : Int) := ⟨walk.toNat, by omega⟩
    have hr : scanned dc ofs pts pks K.N K.M n hh wk pick stp = scanPoints dc ofs K.N n hh stp (rot pts wk) := by
      unfold scanned
      rw [if_neg e, Int.toNat_natCast]
    rw [hr]
    exact scan_points w0 w K H R vn vm bd dc bp pts ak pks pf n pick stp hh wk pb ofs hS hp hpl npb.1 e hhN (by omega) pm hn

set_option maxHeartbeats 1000000 in
theorem zscan_any (w0 w : World) (K : Blks) (H R : Nat) (vn vm : Value) (bd : Nat) (dc : List Int) (bp : Nat) (pts : List Int) (ak : Option Addr) (pks : List Int) (pf : Bool) (n walk pick stp : Int) (hh N : Nat) (p : Addr) (c8 : Nat) (ofs : List Int) (hKN : K.N = N)
    (hS : ScanAt w0 w K H R vn vm bd dc bp pts ak pks pf n hh walk pick (List.replicate K.N false) (List.replicate K.M false)) (hp : Reads (Value.int .u8) w (some p) ofs) (hpl : ofs.length = N)
    (hhN : hh < N) (hn : 1 ≤ n) (hpk : stp = 2 → 0 ≤ pick ∧ pick < pks.length ∧ (hh : Int) ∈ pks) (hwk : stp ≠ 2 → 0 ≤ walk ∧ walk < pts.length ∧ (hh : Int) ∈ pts) :
    Calls Try.prog 22 #[.pointer (some ⟨H, 0, none⟩), .slice (some p) N c8, .int .i64 stp] w fun e w' => e = .returned (.bool (scanned dc ofs pts pks K.N K.M n hh walk pick stp)) ∧ ScanAt w0 w' K H R vn vm bd dc bp pts ak pks pf n hh walk pick (List.replicate K.N false) (List.replicate K.M false) := by
  subst hKN
  have hN := hS.g.nN
  have hmk := run_make_row' (P := Try.prog) 61 62 (.int .u8 0) 1 Try.underlying61 info62 rfl .i64 .i64 K.N (by omega) (by omega)
  have HS := hide hS
  have HP := hide hp
  have HO := hide hpl
  have HPK := hide hpk
  have HWK := hide hwk
  clear hS hp hpl hpk hwk
  go_enter Try.func22, Try.ntmps22
  go_wp2_with fail
  go_loopw [8] (fun i wr => ∃ k : Nat, k ≤ K.N ∧ i = .int .i64 k ∧ Own (Value.int .u8) 62 wr w.heap.size K.N (ofs.take k) ∧ Below w.heap.size w wr) (fun i _ => K.N - (intOf i).toNat)
  case atStart => exact ⟨0, Nat.zero_le _, rfl, Own.made_none _ _ _ _, (Below.refl _ _).alloc (Nat.le_refl _) _⟩
  case round =>
    obtain ⟨k, hk, rfl, hown, hb1⟩ := hrel
    have HB1 := hide hb1
    by_cases hlt : k < K.N
    · have hkx : k < ofs.length := by rw [HO.out]; exact hlt
      obtain ⟨b, o, hp, hc⟩ := (HP.out.keep hb1) k hkx
      cases hp
      have hltI : (k : Int) < (K.N : Int) := by omega
      obtain ⟨v0, hv0⟩ := hown.there hlt
      have hfz := hown.frozen k
      have HOWN := hide hown
      clear hown hb1
      go_wp2_with fail
      have hpush := HOWN.out.push (by rw [List.length_take]; omega) ofs[k]
      have e1 : (ofs.take k).length = k := by rw [List.length_take]; omega
      rw [e1, ← List.take_succ_eq_append_getElem (by omega)] at hpush
      go_roundw
      case rel => exact ⟨k + 1, by omega, by go_num, hpush, HB1.out.setCell (by exact Nat.le_refl _) _⟩
      case measure => simp [intOf]; omega
    · have hkN : k = K.N := by omega
      rw [List.take_of_length_le (by rw [HO.out]; omega)] at hown
      have l1 := HS.out.seen.lt
      have l2 := HS.out.dcs.lt
      have C33 := hide (scan_any w0 wr K H R vn vm bd dc bp pts ak pks pf n walk pick stp hh w.heap.size ofs (HS.out.keep HB1.out) hown.reads HO.out ⟨by omega, by omega⟩ hhN hn HPK.out HWK.out)
      clear hown hb1 l1 l2
      subst hkN
      go_wp2_with fail
      refine C33.out.mono ?_
      rintro e w5 ⟨rfl, hs5⟩
      have HS5 := hide hs5
      clear hs5 C33
      go_wp2_with fail
      go_ret
      exact ⟨rfl, HS5.out⟩
#print axioms zscan_any
end Go.Proofs.Qxb6604780a
