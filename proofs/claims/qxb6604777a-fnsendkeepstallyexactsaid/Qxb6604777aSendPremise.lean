/-
  The walk of sendPremise.
-/
import Derived.Test.Qxb6604777aShape
import Derived.Test.Qxb6604777aLayout
import Derived.Test.Qxb6604777aColumns
import Derived.Test.Qxb6604777aSendLaw
namespace Go.Proofs.Qxb6604777a
set_option linter.unusedSimpArgs false
set_option linter.unusedVariables false
open Go.RowKit

/-- What sendPremise asks. -/
structure SendIs (mask : List Bool) (inputs rec : List ByteArray) (n2 : Nat) (s t : Int) : Prop where
  shape : ShapeIs mask inputs n2 none 0
  pair : PairIs mask s t
  past : EmptyPast (cF mask) rec (place mask (s - 1).toNat) (place mask (t - 1).toNat)

theorem reads_part {w : World} {b o : Nat} {xs : List ByteArray} (h : Reads Value.string w (some ⟨b, o, none⟩) xs) (lo m : Nat) : Reads Value.string w (some ⟨b, o + lo, none⟩) (colAt xs lo m) := fun i hi => by
  unfold colAt at hi ⊢
  rw [List.length_take, List.length_drop] at hi
  refine ⟨b, o + lo, rfl, ?_⟩
  rw [List.getElem_take, List.getElem_drop, Nat.add_assoc]
  exact h.at rfl (by omega)

set_option maxRecDepth 100000 in
set_option maxHeartbeats 2000000 in
theorem sendPremise_any (a0 a1 a2 : Option Addr) (n0 n1 n2 c0 c1 c2 : Nat) (mask : List Bool) (inputs rec : List ByteArray) (sz tz : Int) (w : World) (hl0 : n0 ≤ 65536) (hl1 : n1 ≤ 65536) (hl2 : n2 ≤ 65536) (hcap : n2 ≤ c2) (hn0 : mask.length = n0) (hn1 : inputs.length = n1) (hn2 : rec.length = n2) (hr0 : Reads Value.bool w a0 mask) (hr1 : Reads Value.string w a1 inputs) (hr2 : Reads Value.string w a2 rec) :
    Calls Try.prog 9 #[.slice a0 n0 c0, .slice a1 n1 c1, .slice a2 n2 c2, .int .i64 sz, .int .i64 tz] w fun e w' => SaysIf (SendIs mask inputs rec n2 sz tz) e ∧ Below w.heap.size w w' := by
  have HN0 : Hid (mask.length = n0) := hn0
  have HN1 := hide hn1
  have HN2 := hide hn2
  have R2 := hide hr2
  have HC := hide (tallyShape_any a0 a1 a2 none n0 n1 n2 0 c0 c1 c2 0 mask inputs w hl0 hl1 hl2 (by omega) hn0 hn1 hr0 hr1)
  have HL := hide (layout_any a0 n0 c0 mask w hl0 hn0 hr0)
  clear hn0 hn1 hn2 hr1 hr2
  by_cases hin : 1 ≤ sz ∧ sz ≤ n0 ∧ 1 ≤ tz ∧ tz ≤ n0
  · obtain ⟨hi1, hi2, hi3, hi4⟩ := hin
    obtain ⟨A, rfl⟩ : ∃ A : Nat, sz = (A : Int) + 1 := ⟨(sz - 1).toNat, by omega⟩
    obtain ⟨T, rfl⟩ : ∃ T : Nat, tz = (T : Int) + 1 := ⟨(tz - 1).toNat, by omega⟩
    have hAx : A < mask.length := by have := HN0.out; omega
    have hTx : T < mask.length := by have := HN0.out; omega
    obtain ⟨b, o, hp, hcA⟩ := hr0 A hAx
    cases hp
    have hcT := hr0.at rfl hTx
    have hA1 : (A : Int) < (n0 : Int) := by omega
    have hT1 : (T : Int) < (n0 : Int) := by omega
    clear hr0
    by_cases mA : mask[A] = true
    · have MA : Hid (mask[A] = true) := mA
      rw [mA] at hcA
      clear mA
      by_cases mT : mask[T] = true
      · rw [mT] at hcT
        clear mT
        go_enter Try.func9, Try.ntmps9
        go_wp2
        go_ret
        exact ⟨.no rfl, Below.refl _ _⟩
      · have mT' : mask[T] = false := by simpa using mT
        have MT : Hid (mask[T] = false) := mT'
        rw [mT'] at hcT
        clear mT mT'
        go_enter Try.func9, Try.ntmps9
        go_wp2_with fail
        refine HC.out.mono ?_
        rintro e w' ⟨⟨bb, rfl, hb⟩, hw'⟩
        obtain rfl := hw'.symm
        cases bb
        · go_wp2
          go_ret
          exact ⟨.no rfl, Below.refl _ _⟩
        have HB := hide (hb rfl)
        clear hb
        go_wp2_with fail
        refine HL.out.mono ?_
        rintro e w1 ⟨rfl, hL⟩
        have hPair : PairIs mask ((A : Int) + 1) ((T : Int) + 1) := by
          refine ⟨by omega, by omega, by omega, by omega, ?_, ?_⟩
          · have : ((A : Int) + 1 - 1).toNat = A := by omega
            rw [this, List.getD_eq_getElem?_getD, List.getElem?_eq_getElem hAx]
            exact MA.out
          · have : ((T : Int) + 1 - 1).toNat = T := by omega
            rw [this, List.getD_eq_getElem?_getD, List.getElem?_eq_getElem hTx]
            exact MT.out
        have HPair := hide hPair
        obtain ⟨f, hf⟩ : ∃ f, place mask A = f := ⟨_, rfl⟩
        obtain ⟨g, hg⟩ : ∃ g, place mask T = g := ⟨_, rfl⟩
        have hfK : f < cT mask := by rw [← hf]; exact place_faulty mask A hAx MA.out
        have hgM : g < cF mask := by rw [← hg]; exact place_correct mask T hTx MT.out
        have hM1 : cF mask = n1 := by rw [← HN1.out]; exact HB.out.ins.symm
        have hk2 : n2 = cT mask * n1 := by rw [← hM1]; exact HB.out.recs
        have hm := mul_le_room hk2 hfK
        rw [hM1] at hgM
        have hxA : w1.cell? ⟨w.heap.size + 2, A, none⟩ = some (.int .i64 (f : Int)) := by
          rw [← hf, ← idxK_get mask n0 A (by rw [idxK_length]; omega)]
          exact hL.idx.cell (by rw [idxK_length]; omega)
        have hxB : w1.cell? ⟨w.heap.size + 2, T, none⟩ = some (.int .i64 (g : Int)) := by
          rw [← hg, ← idxK_get mask n0 T (by rw [idxK_length]; omega)]
          exact hL.idx.cell (by rw [idxK_length]; omega)
        obtain ⟨b2, o2, h2p, x2p⟩ := R2.out 0 (by have := HN2.out; omega)
        clear x2p
        subst h2p
        have hi0 : (0 : Int) ≤ (f : Int) * (n1 : Int) := by omega
        have hi1' : (f : Int) * (n1 : Int) + (n1 : Int) ≤ (n2 : Int) := by omega
        have hlow1 := hide hL.low
        have C17 := hide (emptyAfter_any (some ⟨b2, o2 + f * n1, none⟩) (c2 - f * n1) n1 g n1 (colAt rec (f * n1) n1) w1 (by omega) (colAt_length _ _ _ (by have := HN2.out; omega)) (Nat.le_refl _) (by omega) (reads_part (R2.out.keep hL.low) _ _))
        have HF := hide hf
        have HG := hide hg
        have HM1 := hide hM1
        clear hL hPair hf hg hk2 hM1
        go_wp2_with fail
        refine C17.out.mono ?_
        rintro e w' ⟨⟨bb, rfl, hb⟩, hw'⟩
        obtain rfl := hw'.symm
        have HB2 := hide hb
        clear hb
        go_wp2
        go_ret
        refine ⟨⟨bb, rfl, fun h => ⟨HB.out, HPair.out, ?_⟩⟩, hlow1.out⟩
        have e1 : ((A : Int) + 1 - 1).toNat = A := by omega
        have e2 : ((T : Int) + 1 - 1).toNat = T := by omega
        rw [e1, e2, HF.out, HG.out, HM1.out]
        intro j hj1 hj2
        have hj3 : j < (colAt rec (f * n1) n1).length := by rw [colAt_length _ _ _ (by have := HN2.out; omega)]; exact hj2
        have := (HB2.out h).out j hj1 hj2 hj3
        rw [colAt_get rec (f * n1) n1 j hj2 (by have := HN2.out; omega)] at this
        rw [List.getD_eq_getElem?_getD, List.getElem?_eq_getElem (by have := HN2.out; omega)]
        exact this
    · have mA' : mask[A] = false := by simpa using mA
      rw [mA'] at hcA
      clear mA mA'
      go_enter Try.func9, Try.ntmps9
      go_wp2
      go_ret
      exact ⟨.no rfl, Below.refl _ _⟩
  · clear hr0
    go_enter Try.func9, Try.ntmps9
    go_wp2
    all_goals (go_ret; exact ⟨.no rfl, Below.refl _ _⟩)
end Go.Proofs.Qxb6604777a
