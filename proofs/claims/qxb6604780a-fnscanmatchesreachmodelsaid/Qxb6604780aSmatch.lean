/-
  The walk of FnScanMatchesReachModel.
-/
import Derived.Test.Qxb6604780aScans
import Derived.Test.Qxb6604780aRowin
import Derived.Test.Qxb6604780aSmodel
import Derived.Test.Qxb6604780aDomains
import Derived.Deep.RegionHeld3
import Derived.Deep.DrawnRows
namespace Go.Proofs.Qxb6604780a
set_option linter.unusedSimpArgs false
set_option linter.unusedVariables false
open Go.RowKit
attribute [local go_sem ↓] Go.wp_at_zero Go.wp_at_succ

theorem alloc2_0 (w : World) (X Y : Obj) : ((w.alloc X).alloc Y).heap[w.heap.size]? = some X := by
  show ((w.alloc X).alloc Y).heap[w.heap.size]? = some X
  rw [Below.heap_alloc _ _ _ (by simp)]
  exact heap_alloc_new _ _
theorem alloc2_1 (w : World) (X Y : Obj) : ((w.alloc X).alloc Y).heap[w.heap.size + 1]? = some Y := by
  show ((w.alloc X).alloc Y).heap[w.heap.size + 1]? = some Y
  simpa using heap_alloc_new (w.alloc X) Y
theorem alloc2_below (w : World) (X Y : Obj) : Below w.heap.size w ((w.alloc X).alloc Y) := ((Below.refl _ _).alloc (Nat.le_refl _) X).alloc (by simp) Y
theorem own_made {W : World} {n b : Nat} (h : W.heap[b]? = some (.cells (madeCells #[.bool false] n) 4)) : Own Value.bool 4 W b n (List.replicate n false) := by
  obtain ⟨c, hc, r⟩ := Own.made (f := Value.bool) (default : World) false n 4 (.bool false) rfl
  rw [heap_alloc_new] at hc
  injection hc with hc
  injection hc with h1 h2 h3
  subst h1
  exact ⟨_, h, r⟩
/-- The reach, and its flags, as the law makes them. -/
theorem scan_made {w5 W w6 : World} {K : Blks} {H R : Nat} {vn vm : Value} {bd : Nat} {dc : List Int} {bp : Nat} {pts : List Int} {ak : Option Addr} {pks : List Int} {pf : Bool} {n holder walk pick : Int}
    (hG : Ground w5 K R vn vm bd dc bp pts ak pks pf) (hb5 : Below w5.heap.size w5 W) (ls : w5.heap.size ≤ K.kb) (ld : w5.heap.size ≤ K.hb) (nsd : K.kb ≠ K.hb)
    (rs : W.heap[K.kb]? = some (.cells (madeCells #[.bool false] K.N) 4)) (rd : W.heap[K.hb]? = some (.cells (madeCells #[.bool false] K.M) 4)) (hr : ReachAt w6 W.heap.size R n holder walk pick K.kb K.hb K.N K.M) (hb6 : Below W.heap.size W w6) (hH : H = W.heap.size) :
    ScanAt w5 w6 K H R vn vm bd dc bp pts ak pks pf n holder walk pick (List.replicate K.N false) (List.replicate K.M false) := by
  subst hH
  have l1 := lt_of_heap rs
  have l2 := lt_of_heap rd
  exact { g := hG, below := hb5.trans (hb6.mono hb5.size), reach := hr, ls := ls, ld := ld, nsd := nsd, nH := by omega, nH2 := by omega, seen := (own_made rs).keep hb6, dcs := (own_made rd).keep hb6, tl := by simp, fl := by simp }
def twoB (B N M sb db : Nat) : Blks := ⟨B, sb, db, 0, 0, N, M, none, 0⟩

set_option maxRecDepth 100000 in
set_option maxHeartbeats 4000000 in
theorem matches_walk (a0 a2 a3 a8 : Option Addr) (n0 c0 n2 c2 n3 c3 n8 c8 : Nat) (dc pts pks ofs : List Int) (m n holder walk pick step : Int) (w : World)
    (h0 : RowIn (Value.int .i64) w a0 n0 dc) (h2 : RowIn (Value.int .i64) w a2 n2 pts) (h3 : RowIn (Value.int .i64) w a3 n3 pks) (h8 : RowIn (Value.int .u8) w a8 n8 ofs) :
    Calls Try.prog 5 #[.slice a0 n0 c0, .int .i64 m, .slice a2 n2 c2, .slice a3 n3 c3, .int .i64 n, .int .i64 holder, .int .i64 walk, .int .i64 pick, .slice a8 n8 c8, .int .i64 step] w fun e w' => e = .returned (.bool true) ∧ Below w.heap.size w w' := by
  have C19 := hide (bytes19_any a0 a2 a3 a8 n0 c0 n2 c2 n3 c3 n8 c8 m n holder walk pick step w)
  have R0 := hide h0
  have R2 := hide h2
  have R3 := hide h3
  have R8 := hide h8
  clear h0 h2 h3 h8
  by_cases hall : n0 ≤ 32768 ∧ n2 ≤ 32768 ∧ n3 ≤ 32768 ∧ n8 ≤ 32768 ∧ 1 ≤ m ∧ m ≤ 65536 ∧ n8 = n0
  case neg =>
    go_enter Try.func5, Try.ntmps5
    go_wp2_with fail
    refine C19.out.mono ?_
    rintro e w' ⟨⟨b, rfl⟩, hw'⟩
    obtain rfl := hw'.symm
    clear C19
    cases b
    · go_wp2
      go_ret
      exact ⟨rfl, Below.refl _ _⟩
    · go_wp2_with fail
      all_goals first | (go_ret; exact ⟨rfl, Below.refl _ _⟩) | (exfalso; simp at *; omega)
  obtain ⟨l0, l2, l3, l8, m1, m2, e8⟩ := hall
  obtain rfl : n0 = n8 := e8.symm
  obtain ⟨M, rfl⟩ : ∃ M : Nat, m = (M : Int) := ⟨m.toNat, by omega⟩
  have C20 := hide (reachDomain_any a0 a2 a3 n0 c0 n2 c2 n3 c3 dc pts pks M n holder walk pick step w l0 l2 l3 R0.out.len R2.out.len R3.out.len R0.out.reads R2.out.reads R3.out.reads)
  have t0 : decide ((32768 : Int) < (n0 : Int)) = false := by simp; omega
  have t2 : decide ((32768 : Int) < (n2 : Int)) = false := by simp; omega
  have t3 : decide ((32768 : Int) < (n3 : Int)) = false := by simp; omega
  have t6 : decide ((M : Int) < 1) = false := by simp; omega
  have t7 : decide ((65536 : Int) < (M : Int)) = false := by simp; omega
  clear e8
  go_enter Try.func5, Try.ntmps5
  go_wp2_with fail
  refine C19.out.mono ?_
  rintro e w' ⟨⟨b, rfl⟩, hw'⟩
  obtain rfl := hw'.symm
  clear C19
  cases b
  · go_wp2
    go_ret
    exact ⟨rfl, Below.refl _ _⟩
  go_wp2_with fail
  refine C20.out.mono ?_
  rintro e w' ⟨⟨b, rfl, hD⟩, hw'⟩
  obtain rfl := hw'.symm
  clear C20
  cases b
  · clear hD
    go_wp2
    go_ret
    exact ⟨rfl, Below.refl _ _⟩
  have HD := hide (hD rfl)
  clear hD t0 t2 t3 t6 t7
  obtain ⟨k, rfl⟩ : ∃ k, k = n0 := ⟨_, rfl⟩
  obtain ⟨hh, rfl⟩ : ∃ hh : Nat, holder = (hh : Int) := ⟨holder.toNat, by have := HD.out.h0; omega⟩
  have hhN : hh < k := by have := HD.out.h1; rw [R0.out.len] at this; omega
  have nn : ∀ {a : Option Addr}, (a = none → k = 0) → ∃ p, a = some p := by
    intro a h
    cases a with
    | some p => exact ⟨p, rfl⟩
    | none => have := h rfl; omega
  obtain ⟨p0, rfl⟩ := nn R0.out.nil
  obtain ⟨p8, rfl⟩ := nn R8.out.nil
  clear nn
  have C10 := hide (copyInts_some p0 c0 k dc w (by omega) R0.out.len R0.out.reads)
  go_wp2_with fail
  refine C10.out.mono ?_
  rintro e w1 ⟨rfl, ho0, hb1, -⟩
  have O0 := hide ho0
  have B1 := hide hb1
  clear ho0 hb1 C10
  have C10 := hide (copyInts_any a2 c2 n2 pts w1 (by omega) (R2.out.keep B1.out))
  go_wp2_with fail
  refine C10.out.mono ?_
  rintro e w2 ⟨a2', rfl, _, hr2, hb2⟩
  have R2' := hide hr2
  have B2 := hide (B1.out.trans (hb2.mono B1.out.size))
  have O0' := hide (O0.out.keep hb2)
  clear hr2 hb2 C10 O0
  have C10 := hide (copyInts_any a3 c3 n3 pks w2 (by omega) (R3.out.keep B2.out))
  go_wp2_with fail
  refine C10.out.mono ?_
  rintro e w3 ⟨a3', rfl, ha3, hr3, hb3⟩
  have R3' := hide hr3
  have R2'' := hide (R2'.out.keep hb3)
  have B3 := hide (B2.out.trans (hb3.mono B2.out.size))
  have O0'' := hide (O0'.out.keep hb3)
  clear hr3 hb3 C10 O0' R2' ha3
  have C11 := hide (copyU8_some p8 c8 k ofs w3 (by omega) R8.out.len (R8.out.keep B3.out).reads)
  go_wp2_with fail
  refine C11.out.mono ?_
  rintro e w4 ⟨rfl, ho8, hb4, -⟩
  have O8 := hide ho8.reads
  have R3'' := hide (R3'.out.keep hb4)
  have R2' := hide (R2''.out.keep hb4)
  have B4 := hide (B3.out.trans (hb4.mono B3.out.size))
  have O0' := hide (O0''.out.keep hb4)
  clear ho8 hb4 C11 O0'' R2'' R3'
  have C12 := hide (makeRing_any (some ⟨w.heap.size, 0, none⟩) a2' a3' k k n2 n2 n3 n3 (M : Int) false pts pks w4 l0 l2 l3 R2'.out.len R3''.out.len R3''.out.nil R2'.out.reads R3''.out.reads)
  go_wp2_with fail
  refine C12.out.mono ?_
  rintro e w5 ⟨⟨R, vn, vm, bp, ak, rfl, _, _, hring⟩, hb5⟩
  have RG := hide hring
  have O8' := hide (O8.out.keep hb5)
  have R2'' := hide (R2'.out.keep hb5)
  have R3' := hide (R3''.out.keep hb5)
  have B5 := hide (B4.out.trans (hb5.mono B4.out.size))
  have O0'' := hide (O0'.out.keep hb5)
  have L2 := hide R2.out.len
  have L3 := hide R3.out.len
  have L8 := hide R8.out.len
  have HGR : Hid (∀ K : Blks, K.B = w5.heap.size → K.N = k → K.M = M → Ground w5 K R vn vm w.heap.size dc bp pts ak pks false) := by
    intro K e1 e2 e3
    have dl := R0.out.len
    refine { base := e1, ring := ?_, dcs := O0''.out.reads, dl := by rw [e2]; exact dl, dcIn := by rw [e3]; exact HD.out.dcs, ptsIn := by rw [e2, ← dl]; exact HD.out.ptsIn, pksIn := by rw [e2, ← dl]; exact HD.out.pksIn, nN := by omega, nP := ?_, nK := ?_, nM := by omega, m0 := by omega }
    · rw [e2, e3]; exact RG.out
    · rw [L2.out]; exact l2
    · rw [L3.out]; exact l3
  clear hring hb5 C12 R2' R3'' R2 R3 R8 B1 B2 B3 B4 O8 RG O0' L2 L3
  have hmkN := run_make_row' (P := Try.prog) 30 4 (.bool false) 1 Try.underlying30 info4 rfl .i64 .i64 k (by omega) (by omega)
  have hmkM := run_make_row' (P := Try.prog) 30 4 (.bool false) 1 Try.underlying30 info4 rfl .i64 .i64 M (by omega) (by omega)
  obtain ⟨W, hW⟩ : ∃ W, W = (w5.alloc (.cells (madeCells #[.bool false] k) 4)).alloc (.cells (madeCells #[.bool false] M) 4) := ⟨_, rfl⟩
  go_upto_region 24 with fail
  rw [← hW]
  have C21 := hide (makeReach_any R n hh walk pick w5.heap.size (w5.heap.size + 1) k M W)
  have HW := hide hW
  clear hW hmkN hmkM
  go_wp2_with fail
  refine C21.out.mono ?_
  rintro e w6 ⟨rfl, hr6, hb6, -⟩
  have HSC : Hid (ScanAt w5 w6 (twoB w5.heap.size k M w5.heap.size (w5.heap.size + 1)) W.heap.size R vn vm w.heap.size dc bp pts ak pks false n hh walk pick (List.replicate k false) (List.replicate M false)) :=
    scan_made (K := twoB w5.heap.size k M w5.heap.size (w5.heap.size + 1)) (HGR.out _ rfl rfl rfl) (by rw [HW.out]; exact alloc2_below _ _ _) (by simp [twoB]) (by simp [twoB]) (by simp [twoB]) (by rw [HW.out]; exact alloc2_0 _ _ _) (by rw [HW.out]; exact alloc2_1 _ _ _) hr6 hb6 rfl
  clear hr6 hb6 C21 HGR HW
  have C22 := hide (zscan_any w5 w6 (twoB w5.heap.size k M w5.heap.size (w5.heap.size + 1)) W.heap.size R vn vm w.heap.size dc bp pts ak pks false n walk pick step hh k _ k ofs rfl HSC.out (O8'.out.keep HSC.out.below) L8.out hhN HD.out.n1 HD.out.picks HD.out.walks)
  obtain ⟨res, hres⟩ : ∃ res, res = scanned dc ofs pts pks k M n hh walk pick step := ⟨_, rfl⟩
  have E1 : Hid (scanned dc ofs pts pks (twoB w5.heap.size k M w5.heap.size (w5.heap.size + 1)).N (twoB w5.heap.size k M w5.heap.size (w5.heap.size + 1)).M n hh walk pick step = res) := hres.symm
  have E2 : Hid (scanned dc ofs pts pks k M n hh walk pick step = res) := hres.symm
  clear hres
  rw [E1.out] at C22
  go_wp2_with fail
  refine C22.out.mono ?_
  rintro e w7 ⟨rfl, hs7⟩
  have HS7 := hide hs7
  clear hs7 C22
  have dl := R0.out.len
  have C23 := hide (modelScan_any w.heap.size dc pts pks ofs a2' a3' n2 n2 n3 n3 k M _ k n walk pick step hh w7 (HS7.out.g.dcs.keep HS7.out.below) dl HD.out.dcs (R2''.out.keep HS7.out.below).reads R2''.out.len (by rw [← dl]; exact HD.out.ptsIn) (R3'.out.keep HS7.out.below).reads R3'.out.len (by rw [← dl]; exact HD.out.pksIn) (O8'.out.keep HS7.out.below) L8.out l0 (by omega) l2 l3 hhN HD.out.picks HD.out.walks)
  rw [E2.out] at C23
  clear dl
  go_wp2_with fail
  refine C23.out.mono ?_
  rintro e w8 ⟨rfl, hb8⟩
  have hs1 : Own Value.bool 4 w8 w5.heap.size k (List.replicate k false) := HS7.out.seen.keep hb8
  have hs2 : Own Value.bool 4 w8 (w5.heap.size + 1) M (List.replicate M false) := HS7.out.dcs.keep hb8
  have CA := hide (allFalse_any w5.heap.size k w8 (by omega) hs1)
  have CB := hide (allFalse_any (w5.heap.size + 1) M w8 (by omega) hs2)
  have BF := hide (B5.out.trans ((HS7.out.below.trans (hb8.mono HS7.out.below.size)).mono B5.out.size))
  clear hs1 hs2 hb8 C23
  go_wp2_with fail
  refine CA.out.mono ?_
  rintro e w9 ⟨rfl, hw9⟩
  obtain rfl := hw9.symm
  clear CA
  go_wp2_with fail
  refine CB.out.mono ?_
  rintro e w9 ⟨rfl, hw9⟩
  obtain rfl := hw9.symm
  clear CB
  go_wp2_with fail
  go_ret
  exact ⟨rfl, BF.out⟩
#print axioms matches_walk
end Go.Proofs.Qxb6604780a
