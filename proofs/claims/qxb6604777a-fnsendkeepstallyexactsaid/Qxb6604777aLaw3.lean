/-
  The walk of the law of sends.
-/
import Derived.Test.Qxb6604777aZsend
import Derived.Test.Qxb6604777aSendPremise
import Derived.Test.Qxb6604777aTally
import Derived.Test.Qxb6604777aBytes
import Derived.Test.Qxb6604777aSame
import Derived.Test.Qxb6604777aClones
namespace Go.Proofs.Qxb6604777a
set_option linter.unusedSimpArgs false
set_option linter.unusedVariables false
open Go.RowKit

theorem same_sent (c s c' s' n0 M K n2 : Nat) (a3 a4 a6 a7 a8 : Option Addr) (mask : List Bool) (inputs rec rs' : List ByteArray) (w : World) (hl0 : n0 ≤ 65536) (hlM : M ≤ 65536) (hlK : K ≤ 65536) (hl2 : n2 ≤ 65536)
    (e0 : mask.length = n0) (eM : cF mask = M) (eK : cT mask = K) (ei : inputs.length = M) (er : rec.length = n2)
    (hF : FieldsAt w (some ⟨c, 0, none⟩) (some ⟨c + 1, 0, none⟩) (some ⟨c + 2, 0, none⟩) a3 a4 none a6 a7 a8 (some ⟨s + 3, 0, none⟩) 0 mask n0 M K n2 inputs rec none (presL M rec K) (eqL M rec K) rs' (supL M inputs rec none K)) (hrl : rs'.length = K) (hro : RefsOk M K rec rs')
    (hS : StateAt w c' s' n0 M K n2 mask inputs rec none) :
    Calls Try.prog 14 #[.agg #[.slice (some ⟨c, 0, none⟩) M n0, .slice (some ⟨c + 1, 0, none⟩) K n0, .slice (some ⟨c + 2, 0, none⟩) n0 n0, .slice a3 M M, .slice a4 n2 n2, .slice none 0 0, .slice a6 K K, .slice a7 K K, .slice a8 K K, .slice (some ⟨s + 3, 0, none⟩) M M],
      .agg #[.slice (some ⟨c', 0, none⟩) M n0, .slice (some ⟨c' + 1, 0, none⟩) K n0, .slice (some ⟨c' + 2, 0, none⟩) n0 n0, .slice (some ⟨s' + 4, 0, none⟩) M M, .slice (some ⟨s' + 5, 0, none⟩) n2 n2, .slice none 0 0, .slice (some ⟨s', 0, none⟩) K K, .slice (some ⟨s' + 1, 0, none⟩) K K, .slice (some ⟨s' + 2, 0, none⟩) K K, .slice (some ⟨s' + 3, 0, none⟩) M M]] w
      fun e w' => e = .returned (.bool true) ∧ Below w.heap.size w w' := by
  have htk : mask.take n0 = mask := List.take_of_length_le (by omega)
  refine sameTally_any (some ⟨c, 0, none⟩) (some ⟨c + 1, 0, none⟩) (some ⟨c + 2, 0, none⟩) a3 a4 none a6 a7 a8 (some ⟨s + 3, 0, none⟩) _ _ _ _ _ _ _ _ _ _ n0 M K n2 0 0 n0 n0 n0 M n2 0 K K K M n0 n0 n0 M n2 0 K K K M
    (corrK mask n0) (faulK mask n0) (idxK mask n0) (presL M rec K) (eqL M rec K) (supL M inputs rec none K) inputs rec rs' (refL M rec K) w hl0 hlM hlK hl2 ?_ ?_ (idxK_length _ _) ei er (presL_length _ _ _) (eqL_length _ _ _) hrl (refL_length _ _ _) (supL_length _ _ _ _ _)
    hF.corr hS.corr.reads hF.faul hS.faul.reads hF.idx hS.idx.reads hF.ins hS.ins.reads hF.recs hS.recs.reads (.inl ⟨rfl, rfl, rfl, rfl⟩) hF.pres hS.pres.reads hF.eqs hS.eq.reads hF.refs hS.ref.reads hF.sups hS.sup.reads ?_
  · rw [corrK_length mask n0 (by omega), htk]; exact eM
  · rw [faulK_length mask n0 (by omega), htk]; exact eK
  · intro f h1 h2 h3 hpos
    have hfK : f < K := by rw [presL_length] at h1; exact h1
    rw [getD_int (presL M rec K) f h1, presL_at M rec K f hfK] at hpos
    have e1 := hro f hfK (by omega)
    rw [← refL_at M K rec f hfK, List.getD_eq_getElem?_getD, List.getElem?_eq_getElem h2, List.getD_eq_getElem?_getD, List.getElem?_eq_getElem h3] at e1
    simp only [Option.getD_some] at e1
    rw [e1]
    simp

set_option maxRecDepth 100000 in
set_option maxHeartbeats 4000000 in
theorem law3_any (a0 a1 a2 : Option Addr) (n0 n1 n2 c0 c1 c2 : Nat) (sz tz : Int) (v : ByteArray) (mask : List Bool) (inputs rec : List ByteArray) (w : World)
    (hn0 : mask.length = n0) (hn1 : inputs.length = n1) (hn2 : rec.length = n2) (hcap : n2 ≤ c2)
    (hr0 : Reads Value.bool w a0 mask) (hr1 : Reads Value.string w a1 inputs) (hr2 : Reads Value.string w a2 rec) :
    Calls Try.prog 3 #[.slice a0 n0 c0, .slice a1 n1 c1, .slice a2 n2 c2, .int .i64 sz, .int .i64 tz, .string v] w fun e w' => e = .returned (.bool true) ∧ Below w.heap.size w w' := by
  have H0 := hide hn0
  have H1 := hide hn1
  have H2 := hide hn2
  have HC := hide hcap
  have R0 := hide hr0
  have R1 := hide hr1
  have R2 := hide hr2
  have C7 := hide (zzBytesSend_any a0 a1 a2 n0 n1 n2 c0 c1 c2 sz tz v inputs rec w hn1 hn2 hr1 hr2)
  clear hn0 hn1 hn2 hr0 hr1 hr2 hcap
  go_enter Try.func3, Try.ntmps3
  go_wp2_with fail
  refine C7.out.mono ?_
  rintro e w' ⟨⟨b, rfl⟩, hw'⟩
  obtain rfl := hw'.symm
  cases b
  · go_wp2
    go_ret
    exact ⟨rfl, Below.refl _ _⟩
  by_cases hlens : n0 ≤ 65536 ∧ n1 ≤ 65536 ∧ n2 ≤ 65536 ∧ v.size ≤ 1048576
  case neg =>
    by_cases g0 : n0 ≤ 65536
    · by_cases g1 : n1 ≤ 65536
      · by_cases g2 : n2 ≤ 65536
        · have d0 : decide ((65536 : Int) < (n0 : Int)) = false := by simp; omega
          have d1 : decide ((65536 : Int) < (n1 : Int)) = false := by simp; omega
          have d2 : decide ((65536 : Int) < (n2 : Int)) = false := by simp; omega
          have d3 : decide ((1048576 : Int) < (v.size : Int)) = true := by simp; omega
          clear hlens
          go_wp2
          go_ret
          exact ⟨rfl, Below.refl _ _⟩
        · have d0 : decide ((65536 : Int) < (n0 : Int)) = false := by simp; omega
          have d1 : decide ((65536 : Int) < (n1 : Int)) = false := by simp; omega
          have d2 : decide ((65536 : Int) < (n2 : Int)) = true := by simp; omega
          clear hlens
          go_wp2
          go_ret
          exact ⟨rfl, Below.refl _ _⟩
      · have d0 : decide ((65536 : Int) < (n0 : Int)) = false := by simp; omega
        have d1 : decide ((65536 : Int) < (n1 : Int)) = true := by simp; omega
        clear hlens
        go_wp2
        go_ret
        exact ⟨rfl, Below.refl _ _⟩
    · have d0 : decide ((65536 : Int) < (n0 : Int)) = true := by simp; omega
      clear hlens
      go_wp2
      go_ret
      exact ⟨rfl, Below.refl _ _⟩
  obtain ⟨hl0, hl1, hl2, hv⟩ := hlens
  have C8 := hide (tallyBytes_any a0 a1 a2 none n0 n1 n2 0 c0 c1 c2 0 inputs rec w hl0 hl1 hl2 (by omega) H1.out H2.out R1.out R2.out)
  have C9 := hide (sendPremise_any a0 a1 a2 n0 n1 n2 c0 c1 c2 mask inputs rec sz tz w hl0 hl1 hl2 HC.out H0.out H1.out H2.out R0.out R1.out R2.out)
  have d0 : decide ((65536 : Int) < (n0 : Int)) = false := by simp; omega
  have d1 : decide ((65536 : Int) < (n1 : Int)) = false := by simp; omega
  have d2 : decide ((65536 : Int) < (n2 : Int)) = false := by simp; omega
  have dv : decide ((1048576 : Int) < (v.size : Int)) = false := by simp; omega
  go_wp2_with fail
  refine C8.out.mono ?_
  rintro e w' ⟨⟨z, rfl, hz0, hz1⟩, hw'⟩
  obtain rfl := hw'.symm
  by_cases hz : z + (v.size : Int) ≤ 1048576
  case neg =>
    have dz : decide ((1048576 : Int) < z + (v.size : Int)) = true := by simp; omega
    go_wp2_with fail
    go_ret
    exact ⟨rfl, Below.refl _ _⟩
  have dz : decide ((1048576 : Int) < z + (v.size : Int)) = false := by simp; omega
  go_wp2_with fail
  refine C9.out.mono ?_
  rintro e w0 ⟨⟨b, rfl, hb⟩, hlow0⟩
  cases b
  · clear hb
    go_wp2_with fail
    go_ret
    exact ⟨rfl, hlow0⟩
  have HB := hide (hb rfl)
  have C10 := hide (layout_any a0 n0 c0 mask w0 hl0 H0.out (R0.out.keep hlow0))
  clear hb
  go_wp2_with fail
  refine C10.out.mono ?_
  rintro e w1 ⟨rfl, hL⟩
  obtain ⟨hSh, hP, hEP⟩ := HB.out
  obtain ⟨A, rfl⟩ : ∃ A : Nat, sz = (A : Int) + 1 := ⟨(sz - 1).toNat, by have := hP.f1; omega⟩
  obtain ⟨B, rfl⟩ : ∃ B : Nat, tz = (B : Int) + 1 := ⟨(tz - 1).toNat, by have := hP.t1; omega⟩
  have hM1 : cF mask = n1 := by rw [← H1.out]; exact hSh.ins.symm
  have hN : TalN n0 n1 (cT mask) n2 (idxK mask n0) inputs rec (supL n1 inputs rec none (cT mask)) A B (place mask A) (place mask B) := by
    have e0 := H0.out
    have e1 := H1.out
    have hA : A < mask.length := by have := hP.f2; omega
    have hB : B < mask.length := by have := hP.t2; omega
    have mA : mask[A] = true := by
      have := hP.mf
      rw [show ((A : Int) + 1 - 1).toNat = A by omega, getD_bool mask A hA] at this
      exact this
    have mB : mask[B] = false := by
      have := hP.mt
      rw [show ((B : Int) + 1 - 1).toNat = B by omega, List.getD_eq_getElem?_getD, List.getElem?_eq_getElem hB] at this
      exact this
    have k1 := cT_le mask
    have k2 := place_faulty mask A hA mA
    have k3 := place_correct mask B hB mB
    refine ⟨hl0, hl1, by omega, hl2, by rw [← hM1]; exact hSh.recs, by rw [idxK_length], e1, H2.out, by rw [supL_length], k2, by omega, by omega, by omega, ?_, ?_, ?_⟩
    · rw [List.getD_eq_getElem?_getD, List.getElem?_eq_getElem (by rw [idxK_length]; omega), Option.getD_some, idxK_get]
    · rw [List.getD_eq_getElem?_getD, List.getElem?_eq_getElem (by rw [idxK_length]; omega), Option.getD_some, idxK_get]
    · intro x hx
      unfold supL at hx
      rw [List.mem_map] at hx
      obtain ⟨c, _, rfl⟩ := hx
      have := supN_le n1 inputs rec none (cT mask) c
      omega
  have hxA : w1.cell? ⟨w0.heap.size + 2, A, none⟩ = some (.int .i64 (place mask A : Int)) := by
    rw [← idxK_get mask n0 A (by rw [idxK_length]; exact hN.kA)]
    exact hL.idx.cell (by rw [idxK_length]; exact hN.kA)
  have hxB : w1.cell? ⟨w0.heap.size + 2, B, none⟩ = some (.int .i64 (place mask B : Int)) := by
    rw [← idxK_get mask n0 B (by rw [idxK_length]; exact hN.kB)]
    exact hL.idx.cell (by rw [idxK_length]; exact hN.kB)
  have hEP' : EmptyPast n1 rec (place mask A) (place mask B) := by
    have := hEP
    rw [show ((A : Int) + 1 - 1).toNat = A by omega, show ((B : Int) + 1 - 1).toNat = B by omega, hM1] at this
    exact this
  obtain ⟨f, hf⟩ : ∃ f, place mask A = f := ⟨_, rfl⟩
  obtain ⟨g, hg⟩ : ∃ g, place mask B = g := ⟨_, rfl⟩
  obtain ⟨K, hK⟩ : ∃ K, cT mask = K := ⟨_, rfl⟩
  rw [hf, hg, hK] at hN
  rw [hf, hg] at hEP'
  rw [hf] at hxA
  rw [hg] at hxB
  have hin : ∀ o, o < n1 → nem (inputs.getD o emptyS) = true := fun o ho => by
    have hoi : o < inputs.length := by rw [H1.out]; exact ho
    rw [List.getD_eq_getElem?_getD, List.getElem?_eq_getElem hoi]
    exact hSh.held _ (List.getElem_mem hoi)
  have hir : f * n1 + g < rec.length := by
    have := mul_le_room hN.kn hN.fK
    have := hN.cM
    rw [H2.out]
    omega
  have hgi : g < inputs.length := by rw [H1.out]; exact hN.cM
  obtain ⟨b1, o1, h1p, x1p⟩ := R1.out 0 (by omega)
  clear x1p
  obtain ⟨b2, o2, h2p, x2p⟩ := R2.out 0 (by omega)
  clear x2p
  subst h1p
  subst h2p
  clear hSh hP hEP HB C9 C8 C7 C10
  have hm := mul_le_room hN.kn hN.fK
  have hcM := hN.cM
  have hA0 : (A : Int) < (n0 : Int) := by have := hN.kA; omega
  have hB0 : (B : Int) < (n0 : Int) := by have := hN.kB; omega
  have hi0 : (0 : Int) ≤ (f : Int) * (n1 : Int) := by omega
  have hi1 : (f : Int) * (n1 : Int) + (n1 : Int) ≤ (n2 : Int) := by omega
  have hlow1 : Below w.heap.size w w1 := hlow0.trans (hL.low.mono hlow0.size)
  have HIR := hide hir
  have HIN := hide hin
  have HEP := hide hEP'
  have HN := hide hN
  have HKn := hide hN.kn
  have HK := hide hK
  have HM1 := hide hM1
  have C12 : Hid (∀ (W : World) (p : Addr) (cp : Nat) (xs : List ByteArray), Below w.heap.size w W → xs.length = n2 → Reads Value.string W (some p) xs → Calls Try.prog 12 #[.slice a0 n0 c0, .slice (some ⟨b1, o1, none⟩) n1 c1, .slice (some p) n2 cp, .slice none 0 0] W fun e w' => (∃ s, e = .returned (tallyV (W.heap.size + 1) s n0 n1 K n2 none) ∧ StateAt w' (W.heap.size + 1) s n0 n1 K n2 mask inputs xs none) ∧ Below W.heap.size W w') := fun W p cp xs hW hx hr =>
    state_any a0 none ⟨b1, o1, none⟩ p n0 n2 0 c0 c1 cp 0 n1 K mask inputs xs none W hl0 hl1 HN.out.lK hl2 H0.out H1.out hx HM1.out HK.out HKn.out (R0.out.keep hW) (R1.out.keep hW) hr (.inl ⟨rfl, rfl⟩)
  have hsz1 : w0.heap.size + 3 ≤ w1.heap.size := hL.size
  clear hir hin hEP' hN hf hg hK hgi hM1 hL
  go_wp2_with fail
  go_quiet (fail)
  go_wp2_with fail
  have hlq : Below w.heap.size w (w1.drewN nq) := hlow1.trans ((drewN_below w1 nq).mono hlow1.size)
  refine (C12.out _ ⟨b2, o2, none⟩ c2 rec hlq H2.out (R2.out.keep hlq)).mono ?_
  rintro e w2 ⟨⟨s, rfl, hS⟩, hlow2⟩
  unfold tallyV voidV
  have C11 := hide (zzSend_any _ s n0 n1 K n2 mask inputs rec w2 A B f g v hS HN.out HIN.out HEP.out)
  clear hS hxA hxB
  have hlow2' : Below w.heap.size w w2 := hlq.trans (hlow2.mono hlow1.size)
  obtain ⟨c, hc⟩ : ∃ c, (w1.drewN nq).heap.size + 1 = c := ⟨_, rfl⟩
  have hcle : w.heap.size ≤ c := by have : (w1.drewN nq).heap.size = w1.heap.size := rfl; have := hlow1.size; omega
  rw [hc] at C11
  rw [hc]
  go_wp2_with fail
  refine C11.out.mono ?_
  rintro e w4 ⟨⟨a3', a4', a6', a7', a8', rs', rfl, hrl, hro, hF⟩, hlow4⟩
  have hlow4' := hlow4 w.heap.size w hcle hlow2'
  have HF := hide hF
  have HRL := hide hrl
  have HRO := hide hro
  clear hF hlow4 hrl hro
  go_upto_region 13 with fail
  have hB5 := (Below.refl w4.heap.size w4).alloc (Nat.le_refl _) (.cells #[.slice (some ⟨c, 0, none⟩) n1 n0, .slice (some ⟨c + 1, 0, none⟩) K n0, .slice (some ⟨c + 2, 0, none⟩) n0 n0, .slice a3' n1 n1, .slice a4' n2 n2, .slice none 0 0, .slice a6' K K, .slice a7' K K, .slice a8' K K, .slice (some ⟨s + 3, 0, none⟩) n1 n1] 31)
  have hx5 := heap_alloc_new w4 (.cells #[.slice (some ⟨c, 0, none⟩) n1 n0, .slice (some ⟨c + 1, 0, none⟩) K n0, .slice (some ⟨c + 2, 0, none⟩) n0 n0, .slice a3' n1 n1, .slice a4' n2 n2, .slice none 0 0, .slice a6' K K, .slice a7' K K, .slice a8' K K, .slice (some ⟨s + 3, 0, none⟩) n1 n1] 31)
  obtain ⟨w5, hw5⟩ : ∃ w5, w5 = w4.alloc (.cells #[.slice (some ⟨c, 0, none⟩) n1 n0, .slice (some ⟨c + 1, 0, none⟩) K n0, .slice (some ⟨c + 2, 0, none⟩) n0 n0, .slice a3' n1 n1, .slice a4' n2 n2, .slice none 0 0, .slice a6' K K, .slice a7' K K, .slice a8' K K, .slice (some ⟨s + 3, 0, none⟩) n1 n1] 31) := ⟨_, rfl⟩
  rw [← hw5] at hB5 hx5
  rw [← hw5]
  have hlow5 : Below w.heap.size w w5 := hlow4'.trans (hB5.mono hlow4'.size)
  have HF5 := hide (HF.out.keep hB5)
  clear hw5 HF
  have C13 := hide (cloneStrings_some ⟨b2, o2, none⟩ c2 n2 rec w5 (by omega) H2.out (R2.out.keep hlow5))
  go_wp2_with fail
  refine C13.out.mono ?_
  rintro e w5' ⟨rfl, hown, hbc, hsc⟩
  have hii : f * n1 + g < n2 := by have := HIR.out; have := H2.out; omega
  obtain ⟨u0, hu0⟩ := hown.there hii
  have hfz := hown.frozen (f * n1 + g)
  go_upto_region 15 with fail
  obtain ⟨w6, hw6⟩ : ∃ w6, w6 = w5'.setCell ⟨w5.heap.size, f * n1 + g, none⟩ (.string v) := ⟨_, rfl⟩
  rw [← hw6]
  have hb6 : Below w5.heap.size w5 w6 := by rw [hw6]; exact hbc.setCell (by exact Nat.le_refl _) _
  have hWant : Hid (Reads Value.string w6 (some ⟨w5.heap.size, 0, none⟩) (rec.set (f * n1 + g) v)) := by rw [hw6]; exact (hown.set _ v).reads
  have hlowT : Below w.heap.size w w6 := hlow5.trans (hb6.mono hlow5.size)
  have HFT := hide (HF5.out.keep hb6)
  have hz := (hb6.block w4.heap.size (by exact lt_of_heap hx5)).trans hx5
  have hRL : Hid ((rec.set (f * n1 + g) v).length = n2) := by
    show (rec.set (f * n1 + g) v).length = n2
    rw [List.length_set]; exact H2.out
  have z0 : w6.cell? ⟨w4.heap.size, 0, none⟩ = some (.slice (some ⟨c, 0, none⟩) n1 n0) := by simp [World.cell?, hz]
  have z1 : w6.cell? ⟨w4.heap.size, 1, none⟩ = some (.slice (some ⟨c + 1, 0, none⟩) K n0) := by simp [World.cell?, hz]
  have z2 : w6.cell? ⟨w4.heap.size, 2, none⟩ = some (.slice (some ⟨c + 2, 0, none⟩) n0 n0) := by simp [World.cell?, hz]
  have z3 : w6.cell? ⟨w4.heap.size, 3, none⟩ = some (.slice a3' n1 n1) := by simp [World.cell?, hz]
  have z4 : w6.cell? ⟨w4.heap.size, 4, none⟩ = some (.slice a4' n2 n2) := by simp [World.cell?, hz]
  have z5 : w6.cell? ⟨w4.heap.size, 5, none⟩ = some (.slice none 0 0) := by simp [World.cell?, hz]
  have z6 : w6.cell? ⟨w4.heap.size, 6, none⟩ = some (.slice a6' K K) := by simp [World.cell?, hz]
  have z7 : w6.cell? ⟨w4.heap.size, 7, none⟩ = some (.slice a7' K K) := by simp [World.cell?, hz]
  have z8 : w6.cell? ⟨w4.heap.size, 8, none⟩ = some (.slice a8' K K) := by simp [World.cell?, hz]
  have z9 : w6.cell? ⟨w4.heap.size, 9, none⟩ = some (.slice (some ⟨s + 3, 0, none⟩) n1 n1) := by simp [World.cell?, hz]
  clear hw6 hown hu0 hfz hx5 hz hsc hbc HF5 C13 C11
  go_wp2_with fail
  go_region_held3 (fun W => W.cell? ⟨w4.heap.size, 0, none⟩ = some (.slice (some ⟨c, 0, none⟩) n1 n0) ∧ W.cell? ⟨w4.heap.size, 1, none⟩ = some (.slice (some ⟨c + 1, 0, none⟩) K n0) ∧ W.cell? ⟨w4.heap.size, 2, none⟩ = some (.slice (some ⟨c + 2, 0, none⟩) n0 n0) ∧ W.cell? ⟨w4.heap.size, 3, none⟩ = some (.slice a3' n1 n1) ∧ W.cell? ⟨w4.heap.size, 4, none⟩ = some (.slice a4' n2 n2) ∧ W.cell? ⟨w4.heap.size, 5, none⟩ = some (.slice none 0 0) ∧ W.cell? ⟨w4.heap.size, 6, none⟩ = some (.slice a6' K K) ∧ W.cell? ⟨w4.heap.size, 7, none⟩ = some (.slice a7' K K) ∧ W.cell? ⟨w4.heap.size, 8, none⟩ = some (.slice a8' K K) ∧ W.cell? ⟨w4.heap.size, 9, none⟩ = some (.slice (some ⟨s + 3, 0, none⟩) n1 n1)) (first | (have k2q := k2; with_reducible exact k2q) | (have k1q := k1; with_reducible exact k1q) | go_keep) (first | (go_at_call 12; refine (C12.out _ ⟨w5.heap.size, 0, none⟩ n2 (rec.set (f * n1 + g) v) (hlowT.drew) hRL.out hWant.out).mono ?_; rintro e w7 ⟨⟨s7, rfl, hS7⟩, hlow7⟩; have k1 := bKeep hlow7 ⟨z0, z1, z2, z3, z4, z5, z6, z7, z8, z9⟩; unfold tallyV voidV; have C14 := hide (same_sent c s _ s7 n0 n1 K n2 a3' a4' a6' a7' a8' mask inputs (rec.set (f * n1 + g) v) rs' w7 hl0 hl1 HN.out.lK hl2 H0.out HM1.out HK.out H1.out hRL.out (HFT.out.keep (((Below.refl _ _).drew).trans hlow7)) HRL.out HRO.out hS7)) | (go_at_call 14; refine C14.out.mono ?_; rintro e w8 ⟨rfl, hlow8⟩; have k2 := bKeep hlow8 k1))
  all_goals
    go_wp2_with fail
    go_ret
    exact ⟨rfl, (hlowT.trans ((((Below.refl _ _).drew).trans hlow7).mono hlowT.size)).trans (hlow8.mono (Nat.le_trans hlowT.size hlow7.size))⟩
end Go.Proofs.Qxb6604777a
