/-
  The walk of FnListLongerCountExtendsShorter.
-/
import Derived.Test.Qxb6604780aOpen
import Derived.Test.Qxb6604780aLdom
import Derived.Test.Qxb6604780aDomains
import Derived.Deep.RegionWith
import Derived.Deep.DrawnRows
import Derived.Deep.RegionHeld3
namespace Go.Proofs.Qxb6604780a
set_option linter.unusedSimpArgs false
set_option linter.unusedVariables false
open Go.RowKit
attribute [local go_sem ↓] Go.wp_at_zero Go.wp_at_succ

/-- A list that ZZList handed back. -/
def Short (w0 : World) (xs : List Int) (e : Ending) (w' : World) : Prop := ∃ a cap va vb, e = .returned (.tuple #[.slice a xs.length cap, va, vb]) ∧ Reads (Value.int .i64) w' a xs ∧ Below w0.heap.size w0 w' ∧ Hid (xs.length ≤ 9223372036854775807)
theorem ZGot.short {w0 w' : World} {kb hb N M : Nat} {sub : Bool} {S : LS} {e : Ending} (h : ZGot w0 kb hb N M sub S e w') : Short w0 S.chosen e w' := by
  obtain ⟨K, v, vc, va, rfl, hl, hb, _⟩ := h
  rcases hl.kv.2 with ⟨hv, hn⟩ | ⟨g, cap, cur, hv, _, _, hnc, hcm, _⟩
  · refine ⟨none, 0, va, _, by rw [hv, hn], fun i hi => by omega, hb, (by omega : S.chosen.length ≤ 9223372036854775807)⟩
  · have h2 := hl.kv
    rw [hv] at h2
    exact ⟨some ⟨g, 0, none⟩, cap, va, _, by rw [hv], (Own.of_ownsRow h2).1.reads, hb, (by simp [maxLen] at hcm; omega : S.chosen.length ≤ 9223372036854775807)⟩

set_option maxRecDepth 100000 in
set_option maxHeartbeats 1000000 in
theorem longer_walk (a0 a2 a3 a5 : Option Addr) (n0 c0 n2 c2 n3 c3 n5 c5 : Nat) (dc pts pks ofs : List Int) (m sDC walk pick n count count2 : Int) (pf : Bool) (w : World)
    (h0 : RowIn (Value.int .i64) w a0 n0 dc) (h2 : RowIn (Value.int .i64) w a2 n2 pts) (h3 : RowIn (Value.int .i64) w a3 n3 pks) (h5 : RowIn (Value.int .u8) w a5 n5 ofs) :
    Calls Try.prog 4 #[.slice a0 n0 c0, .int .i64 m, .slice a2 n2 c2, .slice a3 n3 c3, .bool pf, .slice a5 n5 c5, .int .i64 sDC, .int .i64 walk, .int .i64 pick, .int .i64 n, .int .i64 count, .int .i64 count2] w fun e w' => e = .returned (.bool true) ∧ Below w.heap.size w w' := by
  have C18 := hide (bytes18_any a0 a2 a3 a5 n0 c0 n2 c2 n3 c3 n5 c5 pf m sDC walk pick n count count2 w)
  have R0 := hide h0
  have R2 := hide h2
  have R3 := hide h3
  have R5 := hide h5
  clear h0 h2 h3 h5
  by_cases hall : n0 ≤ 32768 ∧ n2 ≤ 32768 ∧ n3 ≤ 32768 ∧ n5 ≤ 32768 ∧ 1 ≤ m ∧ m ≤ 65536
  case neg =>
    go_enter Try.func4, Try.ntmps4
    go_wp2_with fail
    refine C18.out.mono ?_
    rintro e w' ⟨⟨b, rfl⟩, hw'⟩
    obtain rfl := hw'.symm
    clear C18
    cases b
    · go_wp2
      go_ret
      exact ⟨rfl, Below.refl _ _⟩
    · go_wp2_with fail
      all_goals first | (go_ret; exact ⟨rfl, Below.refl _ _⟩) | (exfalso; omega)
  obtain ⟨l0, l2, l3, l5, m1, m2⟩ := hall
  obtain ⟨M, rfl⟩ : ∃ M : Nat, m = (M : Int) := ⟨m.toNat, by omega⟩
  have C9 := hide (listDomain_any a0 a2 a3 a5 n0 c0 n2 c2 n3 c3 n5 c5 dc pts pks M walk pick n count w l0 l2 l3 l5 R0.out.len R2.out.len R3.out.len R0.out.reads R2.out.reads R3.out.reads)
  have t0 : decide ((32768 : Int) < (n0 : Int)) = false := by simp; omega
  have t2 : decide ((32768 : Int) < (n2 : Int)) = false := by simp; omega
  have t3 : decide ((32768 : Int) < (n3 : Int)) = false := by simp; omega
  have t5 : decide ((32768 : Int) < (n5 : Int)) = false := by simp; omega
  have t6 : decide ((M : Int) < 1) = false := by simp; omega
  have t7 : decide ((65536 : Int) < (M : Int)) = false := by simp; omega
  by_cases hc2 : count2 < count
  case pos =>
    have tc : decide (count2 < count) = true := by simpa using hc2
    go_enter Try.func4, Try.ntmps4
    go_wp2_with fail
    refine C18.out.mono ?_
    rintro e w' ⟨⟨b, rfl⟩, hw'⟩
    obtain rfl := hw'.symm
    clear C18
    cases b
    · go_wp2
      go_ret
      exact ⟨rfl, Below.refl _ _⟩
    · go_wp2_with fail
      refine C9.out.mono ?_
      rintro e w' ⟨⟨b, rfl, _⟩, hw'⟩
      obtain rfl := hw'.symm
      clear C9
      cases b
      · go_wp2
        go_ret
        exact ⟨rfl, Below.refl _ _⟩
      · go_wp2
        go_ret
        exact ⟨rfl, Below.refl _ _⟩
  have tc : decide (count2 < count) = false := by simpa using hc2
  go_enter Try.func4, Try.ntmps4
  go_wp2_with fail
  refine C18.out.mono ?_
  rintro e w' ⟨⟨b, rfl⟩, hw'⟩
  obtain rfl := hw'.symm
  clear C18
  cases b
  · go_wp2
    go_ret
    exact ⟨rfl, Below.refl _ _⟩
  go_wp2_with fail
  refine C9.out.mono ?_
  rintro e w' ⟨⟨b, rfl, hD⟩, hw'⟩
  obtain rfl := hw'.symm
  clear C9
  cases b
  · clear hD
    go_wp2
    go_ret
    exact ⟨rfl, Below.refl _ _⟩
  have HD := hide (hD rfl)
  clear hD
  -- copies
  obtain ⟨p0, rfl⟩ : ∃ p, a0 = some p := by
    cases a0 with
    | some p => exact ⟨p, rfl⟩
    | none =>
      exfalso
      have e0 := R0.out.nil rfl
      have h1 := HD.out.ptsIn 0 (by have := HD.out.k0; have := HD.out.k1; omega)
      rw [R0.out.len] at h1
      omega
  have C10 := hide (copyInts_some p0 c0 n0 dc w (by omega) R0.out.len R0.out.reads)
  go_wp2_with fail
  refine C10.out.mono ?_
  rintro e w1 ⟨rfl, ho0, hb1, _⟩
  have O0 := hide ho0
  have B1 := hide hb1
  clear ho0 hb1 C10 t0 t2 t3 t5 t6 t7 tc
  have C10 := hide (copyInts_any a2 c2 n2 pts w1 (by omega) (R2.out.keep B1.out))
  go_wp2_with fail
  refine C10.out.mono ?_
  rintro e w2 ⟨a2', rfl, _, hr2, hb2⟩
  have R2' := hide hr2
  have B2 := hide (B1.out.trans (hb2.mono B1.out.size))
  have O0' := hide (O0.out.keep hb2)
  clear hr2 hb2 C10 O0
  have C10 := hide (copyInts_any a3 c3 n3 pks w2 (by omega) (R3.out.keep B2.out))
  go_wp2_with fail
  refine C10.out.mono ?_
  rintro e w3 ⟨a3', rfl, ha3, hr3, hb3⟩
  have R3' := hide hr3
  have R2'' := hide (R2'.out.keep hb3)
  have B3 := hide (B2.out.trans (hb3.mono B2.out.size))
  have O0'' := hide (O0'.out.keep hb3)
  clear hr3 hb3 C10 O0' R2' ha3
  have C11 := hide (copyU8_any a5 c5 n5 ofs w3 (by omega) (R5.out.keep B3.out))
  go_wp2_with fail
  refine C11.out.mono ?_
  rintro e w4 ⟨a5', rfl, ha5, hr5, hb4⟩
  have A5 := hide ha5
  have R5' := hide hr5
  have R3'' := hide (R3'.out.keep hb4)
  have R2' := hide (R2''.out.keep hb4)
  have B4 := hide (B3.out.trans (hb4.mono B3.out.size))
  have O0' := hide (O0''.out.keep hb4)
  clear hr5 hb4 C11 O0'' R2'' R3' ha5
  have C12 := hide (makeRing_any (some ⟨w.heap.size, 0, none⟩) a2' a3' n0 n0 n2 n2 n3 n3 (M : Int) pf pts pks w4 l0 l2 l3 R2'.out.len R3''.out.len R3''.out.nil R2'.out.reads R3''.out.reads)
  go_wp2_with fail
  refine C12.out.mono ?_
  rintro e w5 ⟨⟨R, vn, vm, bp, ak, rfl, _, _, hring⟩, hb5⟩
  have RG := hide hring
  have R5'' := hide (R5'.out.keep hb5)
  have B5 := hide (B4.out.trans (hb5.mono B4.out.size))
  have O0'' := hide (O0'.out.keep hb5)
  have L2 := hide R2.out.len
  have L3 := hide R3.out.len
  clear hring hb5 C12 O0' R5' R2' R3'' R2 R3 R5 B1 B2 B3 B4
  obtain ⟨wk, rfl⟩ : ∃ wk : Nat, walk = (wk : Int) := ⟨walk.toNat, by have := HD.out.k0; omega⟩
  have HWK : Hid (wk < pts.length) := by have := HD.out.k1; exact (by omega : wk < pts.length)
  have HGR : Hid (∀ (W : World), Below w5.heap.size w5 W → ∀ K : Blks, K.B = W.heap.size → K.N = n0 → K.M = M → Ground W K R vn vm w.heap.size dc bp pts ak pks pf) := by
    intro W hW K e1 e2 e3
    have dl := R0.out.len
    refine { base := e1, ring := ?_, dcs := (O0''.out.keep hW).reads, dl := by rw [e2]; exact dl, dcIn := by rw [e3]; exact HD.out.dcs, ptsIn := by rw [e2, ← dl]; exact HD.out.ptsIn, pksIn := by rw [e2, ← dl]; exact HD.out.pksIn, nN := by omega, nP := ?_, nK := ?_, nM := by omega, m0 := by omega }
    · rw [e2, e3]; exact RG.out.keep hW
    · rw [L2.out]; exact l2
    · rw [L3.out]; exact l3
  have hmk0 : ∀ w : World, (Instr.makeSlice 22 (.int .i64 0) (.int .i64 0)).run Try.prog w = .ok (.slice (some ⟨w.heap.size, 0, none⟩) 0 0) (w.alloc (.cells (madeCells #[.int .i64 0] 0) 3)) := run_make_row' (P := Try.prog) 22 3 (.int .i64 0) 8 Try.underlying22 info3 rfl .i64 .i64 0 (by omega) (by omega)
  have hmkN := run_make_row' (P := Try.prog) 30 4 (.bool false) 1 Try.underlying30 info4 rfl .i64 .i64 n0 (by omega) (by omega)
  have hmkM := run_make_row' (P := Try.prog) 30 4 (.bool false) 1 Try.underlying30 info4 rfl .i64 .i64 M (by omega) (by omega)
  have H5N : Hid (a5' ≠ none → n5 = n0) := fun h => by
    have := HD.out.ofl (fun e => h (A5.out.2 e))
    rw [this, R0.out.len]
  have C13 : Hid (∀ (W0 : World), Below w5.heap.size w5 W0 → ∀ (cnt : Int) (W : World) (kc kb hb : Nat), Three W0 W kc kb hb n0 M → Calls Try.prog 13 #[.pointer (some ⟨R, 0, none⟩), .int .i64 (wk : Int), .int .i64 pick, .int .i64 n, .int .i64 cnt, .slice a5' n5 n5, .int .i64 sDC, .slice (some ⟨kc, 0, none⟩) 0 0, .slice (some ⟨kb, 0, none⟩) n0 n0, .slice (some ⟨hb, 0, none⟩) M M] W fun e w' => Short W0 (listed dc pts pks (ak.isSome && decide (1 < spanOf a5' sDC M)) pf (spanOf a5' sDC M) n cnt wk pick.toNat (start n0 M ofs)).chosen e w') := by
    intro W0 hW0 cnt W kc kb hb h3
    exact (zlist_any W0 W R vn vm w.heap.size dc bp pts ak pks pf wk pick n cnt sDC kc kb hb n0 M a5' n5 ofs (HGR.out W0 hW0) HWK.out HD.out.pk l0 (R5''.out.keep hW0) H5N.out h3).mono fun e w' h => h.short
  obtain ⟨X1, hX1⟩ : ∃ X1, X1 = (listed dc pts pks (ak.isSome && decide (1 < spanOf a5' sDC M)) pf (spanOf a5' sDC M) n count wk pick.toNat (start n0 M ofs)).chosen := ⟨_, rfl⟩
  obtain ⟨X2, hX2⟩ : ∃ X2, X2 = (listed dc pts pks (ak.isSome && decide (1 < spanOf a5' sDC M)) pf (spanOf a5' sDC M) n count2 wk pick.toNat (start n0 M ofs)).chosen := ⟨_, rfl⟩
  have HPRE : Hid (X1 <+: X2) := by
    rw [hX1, hX2]
    exact run3_more count count2 (by omega) _ _
  have C1 := hide (C13.out w5 (Below.refl _ _) count)
  rw [← hX1] at C1
  have C2 : Hid (∀ (W0 : World), Below w5.heap.size w5 W0 → ∀ (W : World) (kc kb hb : Nat), Three W0 W kc kb hb n0 M → Calls Try.prog 13 #[.pointer (some ⟨R, 0, none⟩), .int .i64 (wk : Int), .int .i64 pick, .int .i64 n, .int .i64 count2, .slice a5' n5 n5, .int .i64 sDC, .slice (some ⟨kc, 0, none⟩) 0 0, .slice (some ⟨kb, 0, none⟩) n0 n0, .slice (some ⟨hb, 0, none⟩) M M] W fun e w' => Short W0 X2 e w') := by
    intro W0 hW0
    rw [hX2]
    exact C13.out W0 hW0 count2
  clear C13 HGR H5N hX1 hX2 HWK R5'' O0'' RG A5 HD R0 L2 L3
  go_upto_region 22 with fail
  go_cut [26, 27, 28] from 93 to 110 (fun s26 s27 s28 wc => ∃ a cap, s26 = .slice a X1.length cap ∧ Reads (Value.int .i64) wc a X1 ∧ Below w5.heap.size w5 wc ∧ Hid (X1.length ≤ 9223372036854775807))
  case first =>
    go_region_held3 (fun W => True) (trivial) (first | (go_at_call 13; refine (C1.out _ _ _ _ (three_of (alloc3_below _ _ _ _) (by omega) (by omega) (by omega) (by omega) (by omega) (by omega) (by first | exact alloc3_0 _ _ _ _ | exact alloc3_1 _ _ _ _ | exact alloc3_2 _ _ _ _) (by first | exact alloc3_0 _ _ _ _ | exact alloc3_1 _ _ _ _ | exact alloc3_2 _ _ _ _) (by first | exact alloc3_0 _ _ _ _ | exact alloc3_1 _ _ _ _ | exact alloc3_2 _ _ _ _))).mono ?_; rintro e w6 ⟨a6, cap6, va6, vb6, rfl, hr6, hb6, HM6⟩; have HR6 := hide hr6; have HB6 := hide hb6; clear hr6 hb6))
    all_goals (go_wp2; go_meet)
    all_goals exact ⟨a6, cap6, rfl, HR6.out, HB6.out, HM6⟩
  case rest =>
  obtain ⟨a6, cap6, rfl, hr6, hb6, HM6⟩ := hcut
  obtain ⟨w6, rfl⟩ : ∃ w6, w6 = wc := ⟨_, rfl⟩
  have HR6 := hide hr6
  have HB6 := hide hb6
  have C3 := hide (C2.out w6 hb6)
  clear hr6 hb6 C1 C2
  go_upto_region 23 with fail
  go_cut [29, 30, 31] from 111 to 128 (fun s29 s30 s31 w9 => ∃ a cap, s29 = .slice a X2.length cap ∧ Reads (Value.int .i64) w9 a X2 ∧ Below w6.heap.size w6 w9)
  case first =>
    go_region_held3 (fun W => True) (trivial) (first | (go_at_call 13; refine (C3.out _ _ _ _ (three_of (alloc3_below _ _ _ _) (by omega) (by omega) (by omega) (by omega) (by omega) (by omega) (by first | exact alloc3_0 _ _ _ _ | exact alloc3_1 _ _ _ _ | exact alloc3_2 _ _ _ _) (by first | exact alloc3_0 _ _ _ _ | exact alloc3_1 _ _ _ _ | exact alloc3_2 _ _ _ _) (by first | exact alloc3_0 _ _ _ _ | exact alloc3_1 _ _ _ _ | exact alloc3_2 _ _ _ _))).mono ?_; rintro e w7 ⟨a7, cap7, va7, vb7, rfl, hr7, hb7, _⟩; have HR7 := hide hr7; have HB7 := hide hb7; clear hr7 hb7))
    all_goals (go_wp2; go_meet)
    all_goals exact ⟨a7, cap7, rfl, HR7.out, HB7.out⟩
  case rest =>
  obtain ⟨a7, cap7, rfl, hr7, hb7⟩ := hcut
  obtain ⟨w7, rfl⟩ : ∃ w7, w7 = wc := ⟨_, rfl⟩
  have HR7 := hide hr7
  have HR6' := hide (HR6.out.keep hb7)
  have HB7 := hide (B5.out.trans ((HB6.out.trans (hb7.mono HB6.out.size)).mono B5.out.size))
  clear hr7 hb7 HR6 HB6 C3 hmk0 hmkN hmkM
  obtain ⟨k1, hk1⟩ : ∃ k1, k1 = X1.length := ⟨_, rfl⟩
  obtain ⟨k2, hk2⟩ : ∃ k2, k2 = X2.length := ⟨_, rfl⟩
  have hle : k1 ≤ k2 := by rw [hk1, hk2]; exact HPRE.out.length_le
  have hk1b : k1 ≤ 9223372036854775807 := by rw [hk1]; exact HM6.out
  rw [← hk1, ← hk2]
  have K1 := hide hk1
  have K2 := hide hk2
  clear hk1 hk2
  have hnlt : decide ((k2 : Int) < (k1 : Int)) = false := by simp; omega
  go_wp2_with fail
  go_loopw [32] (fun i wr => ∃ k : Nat, k ≤ k1 ∧ i = .int .i64 k ∧ ∃ q, wr = w7.drewN q) (fun i _ => k1 - (intOf i).toNat)
  case atStart => exact ⟨0, Nat.zero_le _, rfl, 0, rfl⟩
  case round =>
    obtain ⟨k, hk, rfl, q, rfl⟩ := hrel
    by_cases hlt : k < k1
    · have hltI : (k : Int) < (k1 : Int) := by omega
      have hltJ : (k : Int) < (k2 : Int) := by omega
      obtain ⟨b6, o6, e6, c6⟩ := HR6'.out k (by rw [← K1.out]; exact hlt)
      obtain ⟨b7, o7, e7, c7⟩ := HR7.out k (by rw [← K2.out]; omega)
      subst e6
      subst e7
      have he : X1[k]'(by rw [← K1.out]; exact hlt) = X2[k]'(by rw [← K2.out]; omega) := HPRE.out.getElem _
      rw [he] at c6
      clear he
      obtain ⟨y, hy⟩ : ∃ y, y = X2[k]'(by rw [← K2.out]; omega) := ⟨_, rfl⟩
      rw [← hy] at c6 c7
      clear hy
      go_wp2_with fail
      go_quiet (fail)
      go_wp2_with fail
      go_roundw
      case rel => exact ⟨k + 1, by omega, by go_num, _, rfl⟩
      case measure => simp [intOf]; omega
    · obtain rfl : k = k1 := by omega
      go_wp2_with fail
      go_ret
      exact ⟨rfl, below_drewN HB7.out q⟩
#print axioms longer_walk
end Go.Proofs.Qxb6604780a
