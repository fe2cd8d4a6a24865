/-
  The walk of the law of claims.
-/
import Derived.Test.Qxb6604777aClaimLaw
import Derived.Test.Qxb6604777aBytes
import Derived.Test.Qxb6604777aShape
import Derived.Test.Qxb6604777aSame
namespace Go.Proofs.Qxb6604777a
set_option linter.unusedSimpArgs false
set_option linter.unusedVariables false
open Go.RowKit

theorem bKeep {B : Nat} {v0 v1 v2 v3 v4 v5 v6 v7 v8 v9 : Value} {W w' : World} (hb : Below W.heap.size W w')
    (h : W.cell? ⟨B, 0, none⟩ = some v0 ∧ W.cell? ⟨B, 1, none⟩ = some v1 ∧ W.cell? ⟨B, 2, none⟩ = some v2 ∧ W.cell? ⟨B, 3, none⟩ = some v3 ∧ W.cell? ⟨B, 4, none⟩ = some v4 ∧ W.cell? ⟨B, 5, none⟩ = some v5 ∧ W.cell? ⟨B, 6, none⟩ = some v6 ∧ W.cell? ⟨B, 7, none⟩ = some v7 ∧ W.cell? ⟨B, 8, none⟩ = some v8 ∧ W.cell? ⟨B, 9, none⟩ = some v9) :
    w'.cell? ⟨B, 0, none⟩ = some v0 ∧ w'.cell? ⟨B, 1, none⟩ = some v1 ∧ w'.cell? ⟨B, 2, none⟩ = some v2 ∧ w'.cell? ⟨B, 3, none⟩ = some v3 ∧ w'.cell? ⟨B, 4, none⟩ = some v4 ∧ w'.cell? ⟨B, 5, none⟩ = some v5 ∧ w'.cell? ⟨B, 6, none⟩ = some v6 ∧ w'.cell? ⟨B, 7, none⟩ = some v7 ∧ w'.cell? ⟨B, 8, none⟩ = some v8 ∧ w'.cell? ⟨B, 9, none⟩ = some v9 := by
  obtain ⟨h0, h1, h2, h3, h4, h5, h6, h7, h8, h9⟩ := h
  exact ⟨(hb.cell (lt_of_cell h0)).trans h0, (hb.cell (lt_of_cell h1)).trans h1, (hb.cell (lt_of_cell h2)).trans h2, (hb.cell (lt_of_cell h3)).trans h3, (hb.cell (lt_of_cell h4)).trans h4, (hb.cell (lt_of_cell h5)).trans h5, (hb.cell (lt_of_cell h6)).trans h6, (hb.cell (lt_of_cell h7)).trans h7, (hb.cell (lt_of_cell h8)).trans h8, (hb.cell (lt_of_cell h9)).trans h9⟩

theorem FieldsAt.keep {w w' : World} {a0 a1 a2 a3 a4 a5 a6 a7 a8 a9 : Option Addr} {m5 : Nat} {mask : List Bool} {n0 M K n2 : Nat} {inputs rec : List ByteArray} {vo : Option (List Bool)} {ps es : List Int} {rs : List ByteArray} {sup : List Int}
    (h : FieldsAt w a0 a1 a2 a3 a4 a5 a6 a7 a8 a9 m5 mask n0 M K n2 inputs rec vo ps es rs sup) (hb : Below w.heap.size w w') : FieldsAt w' a0 a1 a2 a3 a4 a5 a6 a7 a8 a9 m5 mask n0 M K n2 inputs rec vo ps es rs sup := by
  refine ⟨h.corr.keep hb, h.faul.keep hb, h.idx.keep hb, h.ins.keep hb, h.recs.keep hb, ?_, h.pres.keep hb, h.eqs.keep hb, h.refs.keep hb, h.sups.keep hb⟩
  rcases h.void with h | ⟨p, vs, h1, h2, h3, h4, h5⟩
  · exact .inl h
  · exact .inr ⟨p, vs, h1, h2, h3, h4, h5.keep hb⟩
theorem VoidIs.keep {w w' : World} {a : Option Addr} {n n2 : Nat} {vo : Option (List Bool)} (h : VoidIs w a n n2 vo) (hb : Below w.heap.size w w') : VoidIs w' a n n2 vo := by
  rcases h with h | ⟨p, vs, h1, h2, h3, h4, h5⟩
  · exact .inl h
  · exact .inr ⟨p, vs, h1, h2, h3, h4, h5.keep hb⟩

theorem voidV_slice (s n2 : Nat) (vo : Option (List Bool)) : ∃ av nv cv, voidV s n2 vo = .slice av nv cv := by
  cases vo with
  | none => exact ⟨_, _, _, rfl⟩
  | some vs => exact ⟨_, _, _, rfl⟩

theorem same_fields (c s c' s' n0 M K n2 : Nat) (a3 a4 a5 a6 a7 a8 av : Option Addr) (m5 k5 nv cv : Nat) (mask : List Bool) (inputs rec : List ByteArray) (vo : Option (List Bool)) (w : World) (sup : List Int) (hl0 : n0 ≤ 65536) (hlM : M ≤ 65536) (hlK : K ≤ 65536) (hl2 : n2 ≤ 65536)
    (e0 : mask.length = n0) (eM : cF mask = M) (eK : cT mask = K) (ei : inputs.length = M) (er : rec.length = n2)
    (hF : FieldsAt w (some ⟨c, 0, none⟩) (some ⟨c + 1, 0, none⟩) (some ⟨c + 2, 0, none⟩) a3 a4 a5 a6 a7 a8 (some ⟨s + 3, 0, none⟩) m5 mask n0 M K n2 inputs rec vo (presL M rec K) (eqL M rec K) (refL M rec K) sup) (hsup : sup = supL M inputs rec vo K)
    (hS : StateAt w c' s' n0 M K n2 mask inputs rec vo) (hV : voidV s' n2 vo = .slice av nv cv) :
    Calls Try.prog 14 #[.agg #[.slice (some ⟨c, 0, none⟩) M n0, .slice (some ⟨c + 1, 0, none⟩) K n0, .slice (some ⟨c + 2, 0, none⟩) n0 n0, .slice a3 M M, .slice a4 n2 n2, .slice a5 m5 k5, .slice a6 K K, .slice a7 K K, .slice a8 K K, .slice (some ⟨s + 3, 0, none⟩) M M],
      .agg #[.slice (some ⟨c', 0, none⟩) M n0, .slice (some ⟨c' + 1, 0, none⟩) K n0, .slice (some ⟨c' + 2, 0, none⟩) n0 n0, .slice (some ⟨s' + 4, 0, none⟩) M M, .slice (some ⟨s' + 5, 0, none⟩) n2 n2, .slice av nv cv, .slice (some ⟨s', 0, none⟩) K K, .slice (some ⟨s' + 1, 0, none⟩) K K, .slice (some ⟨s' + 2, 0, none⟩) K K, .slice (some ⟨s' + 3, 0, none⟩) M M]] w
      fun e w' => e = .returned (.bool true) ∧ Below w.heap.size w w' := by
  have htk : mask.take n0 = mask := List.take_of_length_le (by omega)
  refine sameTally_any (some ⟨c, 0, none⟩) (some ⟨c + 1, 0, none⟩) (some ⟨c + 2, 0, none⟩) a3 a4 a5 a6 a7 a8 (some ⟨s + 3, 0, none⟩) _ _ _ _ _ _ _ _ _ _ n0 M K n2 m5 nv n0 n0 n0 M n2 k5 K K K M n0 n0 n0 M n2 cv K K K M
    (corrK mask n0) (faulK mask n0) (idxK mask n0) (presL M rec K) (eqL M rec K) sup inputs rec (refL M rec K) (refL M rec K) w hl0 hlM hlK hl2 ?_ ?_ (idxK_length _ _) ei er (presL_length _ _ _) (eqL_length _ _ _) (refL_length _ _ _) (refL_length _ _ _) ?_
    hF.corr hS.corr.reads hF.faul hS.faul.reads hF.idx hS.idx.reads hF.ins hS.ins.reads hF.recs hS.recs.reads ?_ hF.pres hS.pres.reads hF.eqs hS.eq.reads hF.refs hS.ref.reads hF.sups ?_ ?_
  · rw [corrK_length mask n0 (by omega), htk]; exact eM
  · rw [faulK_length mask n0 (by omega), htk]; exact eK
  · rw [hsup, supL_length]
  · rcases hF.void with ⟨h1, h2, h3⟩ | ⟨p, vs, h1, h2, h3, h4, h5⟩
    · subst h2
      cases hV
      exact .inl ⟨h1, rfl, h3, rfl⟩
    · subst h2
      cases hV
      exact .inr ⟨p, _, vs, h1, rfl, by omega, by omega, by omega, h5, (hS.void vs rfl).reads⟩
  · rw [hsup]; exact hS.sup.reads
  · intro f h1 h2 h3 _
    simp

set_option maxRecDepth 100000 in
set_option maxHeartbeats 4000000 in
theorem law6_any (a0 a1 a2 a3 : Option Addr) (n0 n1 n2 n3 c0 c1 c2 c3 : Nat) (tz about : Int) (v : ByteArray) (mask vs : List Bool) (inputs rec : List ByteArray) (w : World)
    (hn0 : mask.length = n0) (hn1 : inputs.length = n1) (hn2 : rec.length = n2) (hn3 : vs.length = n3) (hnil : a3 = none → n3 = 0)
    (hr0 : Reads Value.bool w a0 mask) (hr1 : Reads Value.string w a1 inputs) (hr2 : Reads Value.string w a2 rec) (hr3 : Reads Value.bool w a3 vs) :
    Calls Try.prog 6 #[.slice a0 n0 c0, .slice a1 n1 c1, .slice a2 n2 c2, .slice a3 n3 c3, .int .i64 tz, .int .i64 about, .string v] w fun e w' => e = .returned (.bool true) ∧ Below w.heap.size w w' := by
  have H0 := hide hn0
  have H1 := hide hn1
  have H2 := hide hn2
  have H3 := hide hn3
  have HNil := hide hnil
  have R0 := hide hr0
  have R1 := hide hr1
  have R2 := hide hr2
  have R3 := hide hr3
  have C22 := hide (zzBytesClaim_any a0 a1 a2 a3 n0 n1 n2 n3 c0 c1 c2 c3 tz about v inputs rec w hn1 hn2 hr1 hr2)
  clear hn0 hn1 hn2 hn3 hnil hr0 hr1 hr2 hr3
  go_enter Try.func6, Try.ntmps6
  go_wp2_with fail
  refine C22.out.mono ?_
  rintro e w' ⟨⟨b, rfl⟩, hw'⟩
  obtain rfl := hw'.symm
  cases b
  · go_wp2
    go_ret
    exact ⟨rfl, Below.refl _ _⟩
  by_cases hlens : n0 ≤ 65536 ∧ n1 ≤ 65536 ∧ n2 ≤ 65536 ∧ n3 ≤ 65536
  case neg =>
    by_cases g0 : n0 ≤ 65536
    · by_cases g1 : n1 ≤ 65536
      · by_cases g2 : n2 ≤ 65536
        · have d0 : decide ((65536 : Int) < (n0 : Int)) = false := by simp; omega
          have d1 : decide ((65536 : Int) < (n1 : Int)) = false := by simp; omega
          have d2 : decide ((65536 : Int) < (n2 : Int)) = false := by simp; omega
          have d3 : decide ((65536 : Int) < (n3 : Int)) = true := by simp; omega
          clear hlens
          go_wp2
          go_ret
          exact ⟨rfl, Below.refl _ _⟩
        · have d0 : decide ((65536 : Int) < (n0 : Int)) = false := by simp; omega
          have d1 : decide ((65536 : Int) < (n1 : Int)) = false := by simp; omega
          have d2 : decide ((65536 : Int) < (n2 : Int)) = true := by simp; omega
          clear hlens
          go_wp2
          go_ret
          exact ⟨rfl, Below.refl _ _⟩
      · have d0 : decide ((65536 : Int) < (n0 : Int)) = false := by simp; omega
        have d1 : decide ((65536 : Int) < (n1 : Int)) = true := by simp; omega
        clear hlens
        go_wp2
        go_ret
        exact ⟨rfl, Below.refl _ _⟩
    · have d0 : decide ((65536 : Int) < (n0 : Int)) = true := by simp; omega
      clear hlens
      go_wp2
      go_ret
      exact ⟨rfl, Below.refl _ _⟩
  obtain ⟨hl0, hl1, hl2, hl3⟩ := hlens
  have C8 := hide (tallyBytes_any a0 a1 a2 a3 n0 n1 n2 n3 c0 c1 c2 c3 inputs rec w hl0 hl1 hl2 hl3 H1.out H2.out R1.out R2.out)
  have C23 := hide (claimPremise_any a0 a1 a2 a3 n0 n1 n2 n3 c0 c1 c2 c3 mask inputs tz about w hl0 hl1 hl2 hl3 H0.out H1.out R0.out R1.out)
  have C10 := hide (layout_any a0 n0 c0 mask w hl0 H0.out R0.out)
  have d0 : decide ((65536 : Int) < (n0 : Int)) = false := by simp; omega
  have d1 : decide ((65536 : Int) < (n1 : Int)) = false := by simp; omega
  have d2 : decide ((65536 : Int) < (n2 : Int)) = false := by simp; omega
  have d3 : decide ((65536 : Int) < (n3 : Int)) = false := by simp; omega
  by_cases hv : v.size ≤ 1048576
  case neg =>
    have dv : decide ((1048576 : Int) < (v.size : Int)) = true := by simp; omega
    go_wp2_with fail
    go_ret
    exact ⟨rfl, Below.refl _ _⟩
  have dv : decide ((1048576 : Int) < (v.size : Int)) = false := by simp; omega
  go_wp2_with fail
  refine C8.out.mono ?_
  rintro e w' ⟨⟨z, rfl, hz0, hz1⟩, hw'⟩
  obtain rfl := hw'.symm
  by_cases hz : z + (v.size : Int) ≤ 1048576
  case neg =>
    have dz : decide ((1048576 : Int) < z + (v.size : Int)) = true := by simp; omega
    go_wp2_with fail
    go_ret
    exact ⟨rfl, Below.refl _ _⟩
  have dz : decide ((1048576 : Int) < z + (v.size : Int)) = false := by simp; omega
  go_wp2_with fail
  refine C23.out.mono ?_
  rintro e w' ⟨⟨b, rfl, hb⟩, hw'⟩
  obtain rfl := hw'.symm
  cases b
  · clear hb
    go_wp2_with fail
    go_ret
    exact ⟨rfl, Below.refl _ _⟩
  have HB := hide (hb rfl)
  clear hb
  go_wp2_with fail
  refine C10.out.mono ?_
  rintro e w1 ⟨rfl, hL⟩
  obtain ⟨hSh, hP⟩ := HB.out
  obtain ⟨A, rfl⟩ : ∃ A : Nat, about = (A : Int) + 1 := ⟨(about - 1).toNat, by have := hP.f1; omega⟩
  obtain ⟨B, rfl⟩ : ∃ B : Nat, tz = (B : Int) + 1 := ⟨(tz - 1).toNat, by have := hP.t1; omega⟩
  have hN : TalN n0 n1 (cT mask) n2 (idxK mask n0) inputs rec (supL n1 inputs rec (if a3 = none then none else some vs) (cT mask)) A B (place mask A) (place mask B) := by
    have e0 := H0.out
    have e1 := H1.out
    have hA : A < mask.length := by have := hP.f2; omega
    have hB : B < mask.length := by have := hP.t2; omega
    have mA : mask[A] = true := by
      have := hP.mf
      rw [show ((A : Int) + 1 - 1).toNat = A by omega, getD_bool mask A hA] at this
      exact this
    have mB : mask[B] = false := by
      have := hP.mt
      rw [show ((B : Int) + 1 - 1).toNat = B by omega, List.getD_eq_getElem?_getD, List.getElem?_eq_getElem hB] at this
      exact this
    have k1 := cT_le mask
    have k2 := place_faulty mask A hA mA
    have k3 := place_correct mask B hB mB
    have hM : n1 = cF mask := by rw [← e1]; exact hSh.ins
    refine ⟨hl0, hl1, by omega, hl2, by rw [hM]; exact hSh.recs, by rw [idxK_length], e1, H2.out, by rw [supL_length], k2, by omega, by omega, by omega, ?_, ?_, ?_⟩
    · rw [List.getD_eq_getElem?_getD, List.getElem?_eq_getElem (by rw [idxK_length]; omega), Option.getD_some, idxK_get]
    · rw [List.getD_eq_getElem?_getD, List.getElem?_eq_getElem (by rw [idxK_length]; omega), Option.getD_some, idxK_get]
    · intro x hx
      unfold supL at hx
      rw [List.mem_map] at hx
      obtain ⟨c, _, rfl⟩ := hx
      have := supN_le n1 inputs rec (if a3 = none then none else some vs) (cT mask) c
      omega
  have hM1 : cF mask = n1 := by rw [← H1.out]; exact hSh.ins.symm
  have hxA : w1.cell? ⟨w.heap.size + 2, A, none⟩ = some (.int .i64 (place mask A : Int)) := by
    rw [← idxK_get mask n0 A (by rw [idxK_length]; exact hN.kA)]
    exact hL.idx.cell (by rw [idxK_length]; exact hN.kA)
  have hxB : w1.cell? ⟨w.heap.size + 2, B, none⟩ = some (.int .i64 (place mask B : Int)) := by
    rw [← idxK_get mask n0 B (by rw [idxK_length]; exact hN.kB)]
    exact hL.idx.cell (by rw [idxK_length]; exact hN.kB)
  obtain ⟨f, hf⟩ : ∃ f, place mask A = f := ⟨_, rfl⟩
  obtain ⟨g, hg⟩ : ∃ g, place mask B = g := ⟨_, rfl⟩
  obtain ⟨K, hK⟩ : ∃ K, cT mask = K := ⟨_, rfl⟩
  obtain ⟨vo, hvo⟩ : ∃ vo, (if a3 = none then none else some vs) = vo := ⟨_, rfl⟩
  rw [hf, hg, hK, hvo] at hN
  rw [hf] at hxA
  rw [hg] at hxB
  have hheld := hide hSh.held
  have hVI : VoidIs w1 a3 n3 n2 vo := by
    subst hvo
    cases h3 : a3 with
    | none => exact .inl ⟨rfl, rfl⟩
    | some p =>
      have e3 : n3 = n2 := hSh.void (by rw [h3]; exact fun h => by cases h)
      have r3 := R3.out
      rw [h3] at r3
      exact .inr ⟨p, vs, rfl, by simp, e3, by rw [H3.out]; exact e3, r3.keep hL.low⟩
  have hvl : ∀ vs', vo = some vs' → vs'.length = n2 := fun vs' h => by
    rcases hVI with ⟨_, e⟩ | ⟨_, vs2, _, e, _, hl, _⟩
    · rw [h] at e; cases e
    · rw [h] at e; cases e; exact hl
  have hgi : g < inputs.length := by rw [H1.out]; exact hN.cM
  have hig : nem (inputs.getD g emptyS) = true := by
    rw [List.getD_eq_getElem?_getD, List.getElem?_eq_getElem hgi]
    exact hheld.out _ (List.getElem_mem hgi)
  have hir : f * n1 + g < rec.length := by
    have := mul_le_room hN.kn hN.fK
    have := hN.cM
    rw [H2.out]
    omega
  obtain ⟨b1, o1, h1p, x1p⟩ := R1.out 0 (by omega)
  clear x1p
  obtain ⟨b2, o2, h2p, x2p⟩ := R2.out 0 (by omega)
  clear x2p
  subst h1p
  subst h2p
  clear hSh hP HB C23 C8 C22 C10
  have hm := mul_le_room hN.kn hN.fK
  have hcM := hN.cM
  have hA0 : (A : Int) < (n0 : Int) := by have := hN.kA; omega
  have hB0 : (B : Int) < (n0 : Int) := by have := hN.kB; omega
  have hi0 : (0 : Int) ≤ (f : Int) * (n1 : Int) := by omega
  have hi1 : (f : Int) * (n1 : Int) + (n1 : Int) ≤ (n2 : Int) := by omega
  have hlow1 : Below w.heap.size w w1 := hL.low
  have HIR := hide hir
  have HIG := hide hig
  have HVL := hide hvl
  have HN := hide hN
  have HVI := hide hVI
  have HKn := hide hN.kn
  have C12 : Hid (∀ (W : World) (a : Option Addr) (n c : Nat) (vo' : Option (List Bool)), Below w.heap.size w W → VoidIs W a n n2 vo' → Calls Try.prog 12 #[.slice a0 n0 c0, .slice (some ⟨b1, o1, none⟩) n1 c1, .slice (some ⟨b2, o2, none⟩) n2 c2, .slice a n c] W fun e w' => (∃ s, e = .returned (tallyV (W.heap.size + 1) s n0 n1 K n2 vo') ∧ StateAt w' (W.heap.size + 1) s n0 n1 K n2 mask inputs rec vo') ∧ Below W.heap.size W w') := fun W a n c vo' hW hV =>
    state_any a0 a ⟨b1, o1, none⟩ ⟨b2, o2, none⟩ n0 n2 n c0 c1 c2 c n1 K mask inputs rec vo' W hl0 hl1 HN.out.lK hl2 H0.out H1.out H2.out hM1 hK HKn.out (R0.out.keep hW) (R1.out.keep hW) (R2.out.keep hW) hV
  have HM1 := hide hM1
  have HVo := hide hvo
  have HKK := hide hK
  clear hir hig hvl hN hVI hheld hf hg hK hvo hgi hM1
  go_wp2_with fail
  go_quiet (fail)
  go_wp2_with fail
  refine (C12.out _ a3 n3 c3 vo (hlow1.trans ((drewN_below w1 nq).mono hlow1.size)) ?_).mono ?_
  · rcases HVI.out with ⟨h1, h2⟩ | ⟨p, vs', h1, h2, h3, h4, h5⟩
    · exact .inl ⟨h1, h2⟩
    · exact .inr ⟨p, vs', h1, h2, h3, h4, h5.keep (drewN_below w1 nq)⟩
  rintro e w2 ⟨⟨s, rfl, hS⟩, hlow2⟩
  have hsvl : ∃ av nv cv, voidV s n2 vo = .slice av nv cv := by
    cases vo with
    | none => exact ⟨_, _, _, rfl⟩
    | some vs => exact ⟨_, _, _, rfl⟩
  obtain ⟨av, nv, cv, hsv⟩ := hsvl
  unfold tallyV
  rw [hsv]
  have C24 := hide (zzClaim_any _ s n0 n1 K n2 av nv cv mask inputs rec vo w2 A B f g v hS hsv.symm HVL.out HN.out)
  have hap := hide hS.apart
  clear hS hsv
  have hlow2' : Below w.heap.size w w2 := (hlow1.trans ((drewN_below w1 nq).mono hlow1.size)).trans (hlow2.mono hlow1.size)
  have hsz1 : w.heap.size + 3 ≤ w1.heap.size := hL.size
  clear hL hxA hxB
  obtain ⟨c, hc⟩ : ∃ c, (w1.drewN nq).heap.size + 1 = c := ⟨_, rfl⟩
  have hcle : w.heap.size ≤ c := by have : (w1.drewN nq).heap.size = w1.heap.size := rfl; omega
  rw [hc] at C24
  rw [hc]
  go_wp2_with fail
  refine C24.out.mono ?_
  rintro e w3 ⟨⟨a3', a4', a5', a6', a7', a8', m5, k5, rfl, hF⟩, hlow3⟩
  have hlow3' := hlow3 w.heap.size w hcle hlow2'
  have HF := hide hF
  clear hF hlow3
  go_upto_region 13 with fail
  have HK : Hid (cT mask = K) := HKK
  have hB4 := (Below.refl w3.heap.size w3).alloc (Nat.le_refl _) (.cells #[.slice (some ⟨c, 0, none⟩) n1 n0, .slice (some ⟨c + 1, 0, none⟩) K n0, .slice (some ⟨c + 2, 0, none⟩) n0 n0, .slice a3' n1 n1, .slice a4' n2 n2, .slice a5' m5 k5, .slice a6' K K, .slice a7' K K, .slice a8' K K, .slice (some ⟨s + 3, 0, none⟩) n1 n1] 31)
  have hx4 := heap_alloc_new w3 (.cells #[.slice (some ⟨c, 0, none⟩) n1 n0, .slice (some ⟨c + 1, 0, none⟩) K n0, .slice (some ⟨c + 2, 0, none⟩) n0 n0, .slice a3' n1 n1, .slice a4' n2 n2, .slice a5' m5 k5, .slice a6' K K, .slice a7' K K, .slice a8' K K, .slice (some ⟨s + 3, 0, none⟩) n1 n1] 31)
  obtain ⟨w4, hw4⟩ : ∃ w4, w4 = w3.alloc (.cells #[.slice (some ⟨c, 0, none⟩) n1 n0, .slice (some ⟨c + 1, 0, none⟩) K n0, .slice (some ⟨c + 2, 0, none⟩) n0 n0, .slice a3' n1 n1, .slice a4' n2 n2, .slice a5' m5 k5, .slice a6' K K, .slice a7' K K, .slice a8' K K, .slice (some ⟨s + 3, 0, none⟩) n1 n1] 31) := ⟨_, rfl⟩
  rw [← hw4] at hB4 hx4
  rw [← hw4]
  have hlow4 : Below w.heap.size w w4 := hlow3'.trans (hB4.mono hlow3'.size)
  have HF4 := hide (HF.out.keep hB4)
  clear hw4 HF
  have hrc : w4.cell? ⟨b2, o2 + (f * n1 + g), none⟩ = some (.string rec[f * n1 + g]) := (R2.out.keep hlow4).at rfl HIR.out
  have HRD : Hid (rec.getD (f * n1 + g) emptyS = rec[f * n1 + g]'HIR.out) := by
    show rec.getD (f * n1 + g) emptyS = rec[f * n1 + g]'HIR.out
    rw [List.getD_eq_getElem?_getD, List.getElem?_eq_getElem HIR.out]; rfl
  have hmk := run_make_row' (P := Try.prog) 22 4 (.bool false) 1 Try.underlying22 info4 rfl .i64 .i64 n2 (by omega) (by omega)
  have hB5 := (Below.refl w4.heap.size w4).alloc (Nat.le_refl _) (.cells (madeCells #[.bool false] n2) 4)
  by_cases he : (rec[f * n1 + g].toList == v.toList) = true
  · cases h3 : a3 with
    | none =>
      subst h3
      have hcmp : ∀ W, (binOp .neq 22 (.slice none n3 c3) (.slice none 0 0)).run Try.prog W = .ok (.bool false) W := fun W => ne_nil_none Try.underlying22 n3 c3 W
      have hVt : VoidIs w4 none 0 n2 (claimVo n1 n2 rec vo f g v) := by
        have hv0 : none = vo := by have := HVo.out; rwa [if_pos rfl] at this
        unfold claimVo
        rw [if_pos (show ((rec.getD (f * n1 + g) emptyS).toList == v.toList) = true by rw [HRD.out]; exact he), ← hv0]
        exact .inl ⟨rfl, rfl⟩
      have hbx := hx4
      have HFT := HF4
      have hlowT := hlow4
      have HVt : Hid (VoidIs w4 none 0 n2 (claimVo n1 n2 rec vo f g v)) := hVt
      have hz : w4.heap[w3.heap.size]? = some (.cells #[.slice (some ⟨c, 0, none⟩) n1 n0, .slice (some ⟨c + 1, 0, none⟩) K n0, .slice (some ⟨c + 2, 0, none⟩) n0 n0, .slice a3' n1 n1, .slice a4' n2 n2, .slice a5' m5 k5, .slice a6' K K, .slice a7' K K, .slice a8' K K, .slice (some ⟨s + 3, 0, none⟩) n1 n1] 31 (0, 0)) := hbx
      have z0 : w4.cell? ⟨w3.heap.size, 0, none⟩ = some (.slice (some ⟨c, 0, none⟩) n1 n0) := by simp [World.cell?, hz]
      have z1 : w4.cell? ⟨w3.heap.size, 1, none⟩ = some (.slice (some ⟨c + 1, 0, none⟩) K n0) := by simp [World.cell?, hz]
      have z2 : w4.cell? ⟨w3.heap.size, 2, none⟩ = some (.slice (some ⟨c + 2, 0, none⟩) n0 n0) := by simp [World.cell?, hz]
      have z3 : w4.cell? ⟨w3.heap.size, 3, none⟩ = some (.slice a3' n1 n1) := by simp [World.cell?, hz]
      have z4 : w4.cell? ⟨w3.heap.size, 4, none⟩ = some (.slice a4' n2 n2) := by simp [World.cell?, hz]
      have z5 : w4.cell? ⟨w3.heap.size, 5, none⟩ = some (.slice a5' m5 k5) := by simp [World.cell?, hz]
      have z6 : w4.cell? ⟨w3.heap.size, 6, none⟩ = some (.slice a6' K K) := by simp [World.cell?, hz]
      have z7 : w4.cell? ⟨w3.heap.size, 7, none⟩ = some (.slice a7' K K) := by simp [World.cell?, hz]
      have z8 : w4.cell? ⟨w3.heap.size, 8, none⟩ = some (.slice a8' K K) := by simp [World.cell?, hz]
      have z9 : w4.cell? ⟨w3.heap.size, 9, none⟩ = some (.slice (some ⟨s + 3, 0, none⟩) n1 n1) := by simp [World.cell?, hz]
      clear hVt hbx hz
      go_wp2_with fail
      go_region_held3 (fun W => W.cell? ⟨w3.heap.size, 0, none⟩ = some (.slice (some ⟨c, 0, none⟩) n1 n0) ∧ W.cell? ⟨w3.heap.size, 1, none⟩ = some (.slice (some ⟨c + 1, 0, none⟩) K n0) ∧ W.cell? ⟨w3.heap.size, 2, none⟩ = some (.slice (some ⟨c + 2, 0, none⟩) n0 n0) ∧ W.cell? ⟨w3.heap.size, 3, none⟩ = some (.slice a3' n1 n1) ∧ W.cell? ⟨w3.heap.size, 4, none⟩ = some (.slice a4' n2 n2) ∧ W.cell? ⟨w3.heap.size, 5, none⟩ = some (.slice a5' m5 k5) ∧ W.cell? ⟨w3.heap.size, 6, none⟩ = some (.slice a6' K K) ∧ W.cell? ⟨w3.heap.size, 7, none⟩ = some (.slice a7' K K) ∧ W.cell? ⟨w3.heap.size, 8, none⟩ = some (.slice a8' K K) ∧ W.cell? ⟨w3.heap.size, 9, none⟩ = some (.slice (some ⟨s + 3, 0, none⟩) n1 n1)) (first | (have k2q := k2; with_reducible exact k2q) | (have k1q := k1; with_reducible exact k1q) | go_keep) (first | (go_at_call 12; refine (C12.out _ none 0 0 (claimVo n1 n2 rec vo f g v) (hlowT.drew) (HVt.out.keep ((Below.refl _ _).drew))).mono ?_; rintro e w5 ⟨⟨s5, rfl, hS5⟩, hlow5⟩; have k1 := bKeep hlow5 ⟨z0, z1, z2, z3, z4, z5, z6, z7, z8, z9⟩; obtain ⟨av5, nv5, cv5, hsv5⟩ := voidV_slice s5 n2 (claimVo n1 n2 rec vo f g v); unfold tallyV; rw [hsv5]; have C14 := hide (same_fields c s _ s5 n0 n1 K n2 a3' a4' a5' a6' a7' a8' av5 m5 k5 nv5 cv5 mask inputs rec (claimVo n1 n2 rec vo f g v) w5 (claimSup n1 K inputs rec vo f g v) hl0 hl1 HN.out.lK hl2 H0.out HM1.out HK.out H1.out H2.out (HFT.out.keep (((Below.refl _ _).drew).trans hlow5)) (claim_law n1 K n2 inputs rec vo f g v HN.out.fK HN.out.cM HKn.out HIG.out HVL.out) hS5 hsv5)) | (go_at_call 14; refine C14.out.mono ?_; rintro e w6 ⟨rfl, hlow6⟩; have k2 := bKeep hlow6 k1))
      all_goals
        go_wp2_with fail
        go_ret
        exact ⟨rfl, (hlowT.trans ((((Below.refl _ _).drew).trans hlow5).mono hlowT.size)).trans (hlow6.mono (Nat.le_trans hlowT.size hlow5.size))⟩
    | some p =>
      subst h3
      have hcmp : ∀ W, (binOp .neq 22 (.slice (some p) n3 c3) (.slice none 0 0)).run Try.prog W = .ok (.bool true) W := fun W => ne_nil_some Try.underlying22 p n3 c3 W
      have hvo : some vs = vo := by have := HVo.out; rwa [if_neg (fun h => by cases h)] at this
      obtain rfl : n3 = n2 := by rw [← H3.out]; exact HVL.out vs hvo.symm
      have HVs := hide hvo
      clear hvo
      go_wp2_with fail
      clear hmk hcmp
      go_loopw [22] (fun i wr => ∃ k : Nat, k ≤ n3 ∧ i = .int .i64 k ∧ Own Value.bool 4 wr w4.heap.size n3 (vs.take k) ∧ Below w4.heap.size w4 wr) (fun i _ => n3 - (intOf i).toNat)
      case atStart => exact ⟨0, Nat.zero_le _, rfl, Own.made_none _ _ _ _, hB5⟩
      case round =>
        obtain ⟨k, hk, rfl, hown, hb5⟩ := hrel
        have hlow5 : Below w.heap.size w wr := hlow4.trans (hb5.mono hlow4.size)
        by_cases hlt : k < n3
        · have hkx : k < vs.length := by have := H3.out; omega
          obtain ⟨b, o, hp, hc⟩ := R3.out.keep hlow5 k hkx
          cases hp
          obtain ⟨v0, hv0⟩ := hown.there hlt
          have hfz := hown.frozen k
          have hltI : (k : Int) < (n3 : Int) := by omega
          go_wp2_with fail
          have hn := H3.out
          have hpush := hown.push (by rw [List.length_take]; omega) vs[k]
          have e1 : (vs.take k).length = k := by rw [List.length_take]; omega
          rw [e1, ← List.take_succ_eq_append_getElem (by omega)] at hpush
          go_roundw
          case rel => exact ⟨k + 1, by omega, by go_num, hpush, hb5.setCell (by exact Nat.le_refl _) _⟩
          case measure => simp [intOf]; omega
        · obtain rfl : k = n3 := by omega
          have hown' : Own Value.bool 4 wr w4.heap.size k vs := by rw [List.take_of_length_le (by have := H3.out; omega)] at hown; exact hown
          clear hown
          have hrc : wr.cell? ⟨b2, o2 + (f * n1 + g), none⟩ = some (.string rec[f * n1 + g]) := (R2.out.keep hlow5).at rfl HIR.out
          have hVt : VoidIs wr (some ⟨w4.heap.size, 0, none⟩) k k (claimVo n1 k rec vo f g v) := by
            unfold claimVo
            rw [if_pos (show ((rec.getD (f * n1 + g) emptyS).toList == v.toList) = true by rw [HRD.out]; exact he), ← HVs.out]
            exact .inr ⟨_, vs, rfl, rfl, rfl, H3.out, hown'.reads⟩
          have hbx := (hb5.block w3.heap.size (by exact lt_of_heap hx4)).trans hx4
          have HFT := hide (HF4.out.keep hb5)
          have hlowT := hlow5
          have HVt : Hid (VoidIs wr (some ⟨w4.heap.size, 0, none⟩) k k (claimVo n1 k rec vo f g v)) := hVt
          have hz : wr.heap[w3.heap.size]? = some (.cells #[.slice (some ⟨c, 0, none⟩) n1 n0, .slice (some ⟨c + 1, 0, none⟩) K n0, .slice (some ⟨c + 2, 0, none⟩) n0 n0, .slice a3' n1 n1, .slice a4' k k, .slice a5' m5 k5, .slice a6' K K, .slice a7' K K, .slice a8' K K, .slice (some ⟨s + 3, 0, none⟩) n1 n1] 31 (0, 0)) := hbx
          have z0 : wr.cell? ⟨w3.heap.size, 0, none⟩ = some (.slice (some ⟨c, 0, none⟩) n1 n0) := by simp [World.cell?, hz]
          have z1 : wr.cell? ⟨w3.heap.size, 1, none⟩ = some (.slice (some ⟨c + 1, 0, none⟩) K n0) := by simp [World.cell?, hz]
          have z2 : wr.cell? ⟨w3.heap.size, 2, none⟩ = some (.slice (some ⟨c + 2, 0, none⟩) n0 n0) := by simp [World.cell?, hz]
          have z3 : wr.cell? ⟨w3.heap.size, 3, none⟩ = some (.slice a3' n1 n1) := by simp [World.cell?, hz]
          have z4 : wr.cell? ⟨w3.heap.size, 4, none⟩ = some (.slice a4' k k) := by simp [World.cell?, hz]
          have z5 : wr.cell? ⟨w3.heap.size, 5, none⟩ = some (.slice a5' m5 k5) := by simp [World.cell?, hz]
          have z6 : wr.cell? ⟨w3.heap.size, 6, none⟩ = some (.slice a6' K K) := by simp [World.cell?, hz]
          have z7 : wr.cell? ⟨w3.heap.size, 7, none⟩ = some (.slice a7' K K) := by simp [World.cell?, hz]
          have z8 : wr.cell? ⟨w3.heap.size, 8, none⟩ = some (.slice a8' K K) := by simp [World.cell?, hz]
          have z9 : wr.cell? ⟨w3.heap.size, 9, none⟩ = some (.slice (some ⟨s + 3, 0, none⟩) n1 n1) := by simp [World.cell?, hz]
          clear hVt hbx hz
          go_wp2_with fail
          go_region_held3 (fun W => W.cell? ⟨w3.heap.size, 0, none⟩ = some (.slice (some ⟨c, 0, none⟩) n1 n0) ∧ W.cell? ⟨w3.heap.size, 1, none⟩ = some (.slice (some ⟨c + 1, 0, none⟩) K n0) ∧ W.cell? ⟨w3.heap.size, 2, none⟩ = some (.slice (some ⟨c + 2, 0, none⟩) n0 n0) ∧ W.cell? ⟨w3.heap.size, 3, none⟩ = some (.slice a3' n1 n1) ∧ W.cell? ⟨w3.heap.size, 4, none⟩ = some (.slice a4' k k) ∧ W.cell? ⟨w3.heap.size, 5, none⟩ = some (.slice a5' m5 k5) ∧ W.cell? ⟨w3.heap.size, 6, none⟩ = some (.slice a6' K K) ∧ W.cell? ⟨w3.heap.size, 7, none⟩ = some (.slice a7' K K) ∧ W.cell? ⟨w3.heap.size, 8, none⟩ = some (.slice a8' K K) ∧ W.cell? ⟨w3.heap.size, 9, none⟩ = some (.slice (some ⟨s + 3, 0, none⟩) n1 n1)) (first | (have k2q := k2; with_reducible exact k2q) | (have k1q := k1; with_reducible exact k1q) | go_keep) (first | (go_at_call 12; refine (C12.out _ (some ⟨w4.heap.size, 0, none⟩) k k (claimVo n1 k rec vo f g v) (hlowT.drew) (HVt.out.keep ((Below.refl _ _).drew))).mono ?_; rintro e w5 ⟨⟨s5, rfl, hS5⟩, hlow5⟩; have k1 := bKeep hlow5 ⟨z0, z1, z2, z3, z4, z5, z6, z7, z8, z9⟩; obtain ⟨av5, nv5, cv5, hsv5⟩ := voidV_slice s5 k (claimVo n1 k rec vo f g v); unfold tallyV; rw [hsv5]; have C14 := hide (same_fields c s _ s5 n0 n1 K k a3' a4' a5' a6' a7' a8' av5 m5 k5 nv5 cv5 mask inputs rec (claimVo n1 k rec vo f g v) w5 (claimSup n1 K inputs rec vo f g v) hl0 hl1 HN.out.lK hl2 H0.out HM1.out HK.out H1.out H2.out (HFT.out.keep (((Below.refl _ _).drew).trans hlow5)) (claim_law n1 K k inputs rec vo f g v HN.out.fK HN.out.cM HKn.out HIG.out HVL.out) hS5 hsv5)) | (go_at_call 14; refine C14.out.mono ?_; rintro e w6 ⟨rfl, hlow6⟩; have k2 := bKeep hlow6 k1))
          all_goals
            go_wp2_with fail
            go_ret
            exact ⟨rfl, (hlowT.trans ((((Below.refl _ _).drew).trans hlow5).mono hlowT.size)).trans (hlow6.mono (Nat.le_trans hlowT.size hlow5.size))⟩
  · have heF : (rec[f * n1 + g].toList == v.toList) = false := by simpa using he
    cases h3 : a3 with
    | none =>
      subst h3
      have hcmp : ∀ W, (binOp .neq 22 (.slice none n3 c3) (.slice none 0 0)).run Try.prog W = .ok (.bool false) W := fun W => ne_nil_none Try.underlying22 n3 c3 W
      obtain rfl : n3 = 0 := HNil.out rfl
      have hn0 : none = vo := by have := HVo.out; rwa [if_pos rfl] at this
      have HVs := hide hn0
      clear hn0
      go_wp2_with fail
      clear hmk hcmp
      go_loopw [22] (fun i wr => i = .int .i64 0 ∧ Own Value.bool 4 wr w4.heap.size n2 (List.replicate n2 false) ∧ Below w4.heap.size w4 wr) (fun i _ => 0)
      case atStart => exact ⟨rfl, Own.made (f := Value.bool) w4 false n2 4 _ rfl, hB5⟩
      case round =>
        obtain ⟨rfl, hown', hb5⟩ := hrel
        have hlow5 : Below w.heap.size w wr := hlow4.trans (hb5.mono hlow4.size)
        have hrc : wr.cell? ⟨b2, o2 + (f * n1 + g), none⟩ = some (.string rec[f * n1 + g]) := (R2.out.keep hlow5).at rfl HIR.out
        have hii : f * n1 + g < n2 := by have := HIR.out; have := H2.out; omega
        obtain ⟨v0, hv0⟩ := hown'.there hii
        have hfz := hown'.frozen (f * n1 + g)
        obtain ⟨wt, hwt⟩ : ∃ wt, wt = wr.setCell ⟨w4.heap.size, f * n1 + g, none⟩ (.bool true) := ⟨_, rfl⟩
        go_upto_region 22 with fail
        rw [← hwt]
        have hVt : VoidIs wt (some ⟨w4.heap.size, 0, none⟩) n2 n2 (claimVo n1 n2 rec vo f g v) := by
          unfold claimVo
          rw [if_neg (show ¬ ((rec.getD (f * n1 + g) emptyS).toList == v.toList) = true by rw [HRD.out]; exact he), ← HVs.out, hwt]
          exact .inr ⟨_, (List.replicate n2 false).set (f * n1 + g) true, rfl, rfl, rfl, by rw [List.length_set, List.length_replicate], (hown'.set _ true).reads⟩
        have hb6 : Below w4.heap.size w4 wt := by rw [hwt]; exact hb5.setCell (by exact Nat.le_refl _) _
        have hbx := (hb6.block w3.heap.size (by exact lt_of_heap hx4)).trans hx4
        have HFT := hide (HF4.out.keep hb6)
        have hlowT : Below w.heap.size w wt := hlow4.trans (hb6.mono hlow4.size)
        clear hwt hv0 hfz hrc
        have HVt : Hid (VoidIs wt (some ⟨w4.heap.size, 0, none⟩) n2 n2 (claimVo n1 n2 rec vo f g v)) := hVt
        have hz : wt.heap[w3.heap.size]? = some (.cells #[.slice (some ⟨c, 0, none⟩) n1 n0, .slice (some ⟨c + 1, 0, none⟩) K n0, .slice (some ⟨c + 2, 0, none⟩) n0 n0, .slice a3' n1 n1, .slice a4' n2 n2, .slice a5' m5 k5, .slice a6' K K, .slice a7' K K, .slice a8' K K, .slice (some ⟨s + 3, 0, none⟩) n1 n1] 31 (0, 0)) := hbx
        have z0 : wt.cell? ⟨w3.heap.size, 0, none⟩ = some (.slice (some ⟨c, 0, none⟩) n1 n0) := by simp [World.cell?, hz]
        have z1 : wt.cell? ⟨w3.heap.size, 1, none⟩ = some (.slice (some ⟨c + 1, 0, none⟩) K n0) := by simp [World.cell?, hz]
        have z2 : wt.cell? ⟨w3.heap.size, 2, none⟩ = some (.slice (some ⟨c + 2, 0, none⟩) n0 n0) := by simp [World.cell?, hz]
        have z3 : wt.cell? ⟨w3.heap.size, 3, none⟩ = some (.slice a3' n1 n1) := by simp [World.cell?, hz]
        have z4 : wt.cell? ⟨w3.heap.size, 4, none⟩ = some (.slice a4' n2 n2) := by simp [World.cell?, hz]
        have z5 : wt.cell? ⟨w3.heap.size, 5, none⟩ = some (.slice a5' m5 k5) := by simp [World.cell?, hz]
        have z6 : wt.cell? ⟨w3.heap.size, 6, none⟩ = some (.slice a6' K K) := by simp [World.cell?, hz]
        have z7 : wt.cell? ⟨w3.heap.size, 7, none⟩ = some (.slice a7' K K) := by simp [World.cell?, hz]
        have z8 : wt.cell? ⟨w3.heap.size, 8, none⟩ = some (.slice a8' K K) := by simp [World.cell?, hz]
        have z9 : wt.cell? ⟨w3.heap.size, 9, none⟩ = some (.slice (some ⟨s + 3, 0, none⟩) n1 n1) := by simp [World.cell?, hz]
        clear hVt hbx hz
        go_wp2_with fail
        go_region_held3 (fun W => W.cell? ⟨w3.heap.size, 0, none⟩ = some (.slice (some ⟨c, 0, none⟩) n1 n0) ∧ W.cell? ⟨w3.heap.size, 1, none⟩ = some (.slice (some ⟨c + 1, 0, none⟩) K n0) ∧ W.cell? ⟨w3.heap.size, 2, none⟩ = some (.slice (some ⟨c + 2, 0, none⟩) n0 n0) ∧ W.cell? ⟨w3.heap.size, 3, none⟩ = some (.slice a3' n1 n1) ∧ W.cell? ⟨w3.heap.size, 4, none⟩ = some (.slice a4' n2 n2) ∧ W.cell? ⟨w3.heap.size, 5, none⟩ = some (.slice a5' m5 k5) ∧ W.cell? ⟨w3.heap.size, 6, none⟩ = some (.slice a6' K K) ∧ W.cell? ⟨w3.heap.size, 7, none⟩ = some (.slice a7' K K) ∧ W.cell? ⟨w3.heap.size, 8, none⟩ = some (.slice a8' K K) ∧ W.cell? ⟨w3.heap.size, 9, none⟩ = some (.slice (some ⟨s + 3, 0, none⟩) n1 n1)) (first | (have k2q := k2; with_reducible exact k2q) | (have k1q := k1; with_reducible exact k1q) | go_keep) (first | (go_at_call 12; refine (C12.out _ (some ⟨w4.heap.size, 0, none⟩) n2 n2 (claimVo n1 n2 rec vo f g v) (hlowT.drew) (HVt.out.keep ((Below.refl _ _).drew))).mono ?_; rintro e w5 ⟨⟨s5, rfl, hS5⟩, hlow5⟩; have k1 := bKeep hlow5 ⟨z0, z1, z2, z3, z4, z5, z6, z7, z8, z9⟩; obtain ⟨av5, nv5, cv5, hsv5⟩ := voidV_slice s5 n2 (claimVo n1 n2 rec vo f g v); unfold tallyV; rw [hsv5]; have C14 := hide (same_fields c s _ s5 n0 n1 K n2 a3' a4' a5' a6' a7' a8' av5 m5 k5 nv5 cv5 mask inputs rec (claimVo n1 n2 rec vo f g v) w5 (claimSup n1 K inputs rec vo f g v) hl0 hl1 HN.out.lK hl2 H0.out HM1.out HK.out H1.out H2.out (HFT.out.keep (((Below.refl _ _).drew).trans hlow5)) (claim_law n1 K n2 inputs rec vo f g v HN.out.fK HN.out.cM HKn.out HIG.out HVL.out) hS5 hsv5)) | (go_at_call 14; refine C14.out.mono ?_; rintro e w6 ⟨rfl, hlow6⟩; have k2 := bKeep hlow6 k1))
        all_goals
          go_wp2_with fail
          go_ret
          exact ⟨rfl, (hlowT.trans ((((Below.refl _ _).drew).trans hlow5).mono hlowT.size)).trans (hlow6.mono (Nat.le_trans hlowT.size hlow5.size))⟩
    | some p =>
      subst h3
      have hcmp : ∀ W, (binOp .neq 22 (.slice (some p) n3 c3) (.slice none 0 0)).run Try.prog W = .ok (.bool true) W := fun W => ne_nil_some Try.underlying22 p n3 c3 W
      have hvo : some vs = vo := by have := HVo.out; rwa [if_neg (fun h => by cases h)] at this
      obtain rfl : n3 = n2 := by rw [← H3.out]; exact HVL.out vs hvo.symm
      have HVs := hide hvo
      clear hvo
      go_wp2_with fail
      clear hmk hcmp
      go_loopw [22] (fun i wr => ∃ k : Nat, k ≤ n3 ∧ i = .int .i64 k ∧ Own Value.bool 4 wr w4.heap.size n3 (vs.take k) ∧ Below w4.heap.size w4 wr) (fun i _ => n3 - (intOf i).toNat)
      case atStart => exact ⟨0, Nat.zero_le _, rfl, Own.made_none _ _ _ _, hB5⟩
      case round =>
        obtain ⟨k, hk, rfl, hown, hb5⟩ := hrel
        have hlow5 : Below w.heap.size w wr := hlow4.trans (hb5.mono hlow4.size)
        by_cases hlt : k < n3
        · have hkx : k < vs.length := by have := H3.out; omega
          obtain ⟨b, o, hp, hc⟩ := R3.out.keep hlow5 k hkx
          cases hp
          obtain ⟨v0, hv0⟩ := hown.there hlt
          have hfz := hown.frozen k
          have hltI : (k : Int) < (n3 : Int) := by omega
          go_wp2_with fail
          have hn := H3.out
          have hpush := hown.push (by rw [List.length_take]; omega) vs[k]
          have e1 : (vs.take k).length = k := by rw [List.length_take]; omega
          rw [e1, ← List.take_succ_eq_append_getElem (by omega)] at hpush
          go_roundw
          case rel => exact ⟨k + 1, by omega, by go_num, hpush, hb5.setCell (by exact Nat.le_refl _) _⟩
          case measure => simp [intOf]; omega
        · obtain rfl : k = n3 := by omega
          have hown' : Own Value.bool 4 wr w4.heap.size k vs := by rw [List.take_of_length_le (by have := H3.out; omega)] at hown; exact hown
          clear hown
          have hrc : wr.cell? ⟨b2, o2 + (f * n1 + g), none⟩ = some (.string rec[f * n1 + g]) := (R2.out.keep hlow5).at rfl HIR.out
          have hii : f * n1 + g < k := by have := HIR.out; have := H2.out; omega
          obtain ⟨v0, hv0⟩ := hown'.there hii
          have hfz := hown'.frozen (f * n1 + g)
          obtain ⟨wt, hwt⟩ : ∃ wt, wt = wr.setCell ⟨w4.heap.size, f * n1 + g, none⟩ (.bool true) := ⟨_, rfl⟩
          go_upto_region 22 with fail
          rw [← hwt]
          have hVt : VoidIs wt (some ⟨w4.heap.size, 0, none⟩) k k (claimVo n1 k rec vo f g v) := by
            unfold claimVo
            rw [if_neg (show ¬ ((rec.getD (f * n1 + g) emptyS).toList == v.toList) = true by rw [HRD.out]; exact he), ← HVs.out, hwt]
            exact .inr ⟨_, vs.set (f * n1 + g) true, rfl, rfl, rfl, by rw [List.length_set]; exact H3.out, (hown'.set _ true).reads⟩
          have hb6 : Below w4.heap.size w4 wt := by rw [hwt]; exact hb5.setCell (by exact Nat.le_refl _) _
          have hbx := (hb6.block w3.heap.size (by exact lt_of_heap hx4)).trans hx4
          have HFT := hide (HF4.out.keep hb6)
          have hlowT : Below w.heap.size w wt := hlow4.trans (hb6.mono hlow4.size)
          clear hwt hv0 hfz hrc
          have HVt : Hid (VoidIs wt (some ⟨w4.heap.size, 0, none⟩) k k (claimVo n1 k rec vo f g v)) := hVt
          have hz : wt.heap[w3.heap.size]? = some (.cells #[.slice (some ⟨c, 0, none⟩) n1 n0, .slice (some ⟨c + 1, 0, none⟩) K n0, .slice (some ⟨c + 2, 0, none⟩) n0 n0, .slice a3' n1 n1, .slice a4' k k, .slice a5' m5 k5, .slice a6' K K, .slice a7' K K, .slice a8' K K, .slice (some ⟨s + 3, 0, none⟩) n1 n1] 31 (0, 0)) := hbx
          have z0 : wt.cell? ⟨w3.heap.size, 0, none⟩ = some (.slice (some ⟨c, 0, none⟩) n1 n0) := by simp [World.cell?, hz]
          have z1 : wt.cell? ⟨w3.heap.size, 1, none⟩ = some (.slice (some ⟨c + 1, 0, none⟩) K n0) := by simp [World.cell?, hz]
          have z2 : wt.cell? ⟨w3.heap.size, 2, none⟩ = some (.slice (some ⟨c + 2, 0, none⟩) n0 n0) := by simp [World.cell?, hz]
          have z3 : wt.cell? ⟨w3.heap.size, 3, none⟩ = some (.slice a3' n1 n1) := by simp [World.cell?, hz]
          have z4 : wt.cell? ⟨w3.heap.size, 4, none⟩ = some (.slice a4' k k) := by simp [World.cell?, hz]
          have z5 : wt.cell? ⟨w3.heap.size, 5, none⟩ = some (.slice a5' m5 k5) := by simp [World.cell?, hz]
          have z6 : wt.cell? ⟨w3.heap.size, 6, none⟩ = some (.slice a6' K K) := by simp [World.cell?, hz]
          have z7 : wt.cell? ⟨w3.heap.size, 7, none⟩ = some (.slice a7' K K) := by simp [World.cell?, hz]
          have z8 : wt.cell? ⟨w3.heap.size, 8, none⟩ = some (.slice a8' K K) := by simp [World.cell?, hz]
          have z9 : wt.cell? ⟨w3.heap.size, 9, none⟩ = some (.slice (some ⟨s + 3, 0, none⟩) n1 n1) := by simp [World.cell?, hz]
          clear hVt hbx hz
          go_wp2_with fail
          go_region_held3 (fun W => W.cell? ⟨w3.heap.size, 0, none⟩ = some (.slice (some ⟨c, 0, none⟩) n1 n0) ∧ W.cell? ⟨w3.heap.size, 1, none⟩ = some (.slice (some ⟨c + 1, 0, none⟩) K n0) ∧ W.cell? ⟨w3.heap.size, 2, none⟩ = some (.slice (some ⟨c + 2, 0, none⟩) n0 n0) ∧ W.cell? ⟨w3.heap.size, 3, none⟩ = some (.slice a3' n1 n1) ∧ W.cell? ⟨w3.heap.size, 4, none⟩ = some (.slice a4' k k) ∧ W.cell? ⟨w3.heap.size, 5, none⟩ = some (.slice a5' m5 k5) ∧ W.cell? ⟨w3.heap.size, 6, none⟩ = some (.slice a6' K K) ∧ W.cell? ⟨w3.heap.size, 7, none⟩ = some (.slice a7' K K) ∧ W.cell? ⟨w3.heap.size, 8, none⟩ = some (.slice a8' K K) ∧ W.cell? ⟨w3.heap.size, 9, none⟩ = some (.slice (some ⟨s + 3, 0, none⟩) n1 n1)) (first | (have k2q := k2; with_reducible exact k2q) | (have k1q := k1; with_reducible exact k1q) | go_keep) (first | (go_at_call 12; refine (C12.out _ (some ⟨w4.heap.size, 0, none⟩) k k (claimVo n1 k rec vo f g v) (hlowT.drew) (HVt.out.keep ((Below.refl _ _).drew))).mono ?_; rintro e w5 ⟨⟨s5, rfl, hS5⟩, hlow5⟩; have k1 := bKeep hlow5 ⟨z0, z1, z2, z3, z4, z5, z6, z7, z8, z9⟩; obtain ⟨av5, nv5, cv5, hsv5⟩ := voidV_slice s5 k (claimVo n1 k rec vo f g v); unfold tallyV; rw [hsv5]; have C14 := hide (same_fields c s _ s5 n0 n1 K k a3' a4' a5' a6' a7' a8' av5 m5 k5 nv5 cv5 mask inputs rec (claimVo n1 k rec vo f g v) w5 (claimSup n1 K inputs rec vo f g v) hl0 hl1 HN.out.lK hl2 H0.out HM1.out HK.out H1.out H2.out (HFT.out.keep (((Below.refl _ _).drew).trans hlow5)) (claim_law n1 K k inputs rec vo f g v HN.out.fK HN.out.cM HKn.out HIG.out HVL.out) hS5 hsv5)) | (go_at_call 14; refine C14.out.mono ?_; rintro e w6 ⟨rfl, hlow6⟩; have k2 := bKeep hlow6 k1))
          all_goals
            go_wp2_with fail
            go_ret
            exact ⟨rfl, (hlowT.trans ((((Below.refl _ _).drew).trans hlow5).mono hlowT.size)).trans (hlow6.mono (Nat.le_trans hlowT.size hlow5.size))⟩
end Go.Proofs.Qxb6604777a
