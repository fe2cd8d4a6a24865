/-
  The premises: tallyShape, claimPremise. Of what they say only 'yes' is asked: what then holds.
-/
import Derived.Test.Qxb6604777aBase
import Derived.Test.Qxb6604777aPlain
import Derived.Deep.QuietTactic
import Derived.BigQuiet
namespace Go.Proofs.Qxb6604777a
set_option linter.unusedSimpArgs false
set_option linter.unusedVariables false
open Go.RowKit

/-- One non-empty input a correct process, one round-1 entry a pair, voided nil or one flag an entry. -/
structure ShapeIs (mask : List Bool) (inputs : List ByteArray) (n2 : Nat) (a3 : Option Addr) (n3 : Nat) : Prop where
  ins : inputs.length = cF mask
  recs : n2 = cT mask * cF mask
  void : a3 ≠ none → n3 = n2
  held : ∀ x ∈ inputs, nem x = true

/-- It returned a bool; if it says true, P. -/
def SaysIf (P : Prop) (e : Ending) : Prop := ∃ b : Bool, e = .returned (.bool b) ∧ (b = true → P)
theorem SaysIf.no {P : Prop} {e : Ending} (h : e = .returned (.bool false)) : SaysIf P e := ⟨false, h, fun h => by cases h⟩
theorem SaysIf.yes {P : Prop} {e : Ending} (h : e = .returned (.bool true)) (hp : P) : SaysIf P e := ⟨true, h, fun _ => hp⟩

set_option maxHeartbeats 2000000 in
theorem tallyShape_any (a0 a1 a2 a3 : Option Addr) (n0 n1 n2 n3 c0 c1 c2 c3 : Nat) (mask : List Bool) (inputs : List ByteArray) (w : World) (hl0 : n0 ≤ 65536) (hl1 : n1 ≤ 65536) (hl2 : n2 ≤ 65536) (hl3 : n3 ≤ 65536) (hn0 : mask.length = n0) (hn1 : inputs.length = n1) (hr0 : Reads Value.bool w a0 mask) (hr1 : Reads Value.string w a1 inputs) :
    Calls Try.prog 25 #[.slice a0 n0 c0, .slice a1 n1 c1, .slice a2 n2 c2, .slice a3 n3 c3] w fun e w' => SaysIf (ShapeIs mask inputs n2 a3 n3) e ∧ w' = w := by
  have HN0 : Hid (mask.length = n0) := hn0
  have HN1 : Hid (inputs.length = n1) := hn1
  clear hn0 hn1
  go_enter Try.func25, Try.ntmps25
  go_wp2
  go_loop [9, 10, 11] (fun m k i => ∃ j : Nat, j ≤ n0 ∧ i = .int .i64 j ∧ m = .int .i64 (cF (mask.take j)) ∧ k = .int .i64 (cT (mask.take j))) (fun _ _ i => n0 - (intOf i).toNat)
  case atStart => exact ⟨0, Nat.zero_le _, rfl, rfl, rfl⟩
  case round =>
    obtain ⟨j, hj, rfl, rfl, rfl⟩ := hrel
    have hF : cF (mask.take j) ≤ j := by have := cF_le (mask.take j); rw [List.length_take] at this; omega
    have hT : cT (mask.take j) ≤ j := by have := cT_le (mask.take j); rw [List.length_take] at this; omega
    by_cases hlt : j < n0
    · have hjx : j < mask.length := by have := HN0.out; omega
      have HS : Hid (mask.take (j + 1) = mask.take j ++ [mask[j]]) := take_snoc_bool mask j hjx
      obtain ⟨b, o, hp, hc⟩ := hr0 j hjx
      cases hp
      by_cases hm : mask[j] = true
      · have HM : Hid (mask[j] = true) := hm
        rw [hm] at hc
        clear hm
        go_wp2
        go_round
        case rel => exact ⟨j + 1, by omega, by go_num, by rw [HS.out, cF_snoc, HM.out]; rfl, by rw [HS.out, cT_snoc, HM.out]; rfl⟩
        case measure => simp [intOf]; omega
      · have hm' : mask[j] = false := by simpa using hm
        have HM : Hid (mask[j] = false) := hm'
        rw [hm'] at hc
        clear hm hm'
        go_wp2
        go_round
        case rel => exact ⟨j + 1, by omega, by go_num, by rw [HS.out, cF_snoc, HM.out]; rfl, by rw [HS.out, cT_snoc, HM.out]; rfl⟩
        case measure => simp [intOf]; omega
    · obtain rfl : j = n0 := by omega
      have HF : Hid (cF (mask.take j) = cF mask) := by have := HN0.out; show _ = _; rw [List.take_of_length_le (by omega)]
      have HT : Hid (cT (mask.take j) = cT mask) := by have := HN0.out; show _ = _; rw [List.take_of_length_le (by omega)]
      generalize cF (mask.take j) = M at *
      generalize cT (mask.take j) = K at *
      have hmul : (K : Int) * (M : Int) ≤ 4294967296 := by
        have : K * M ≤ 65536 * 65536 := Nat.mul_le_mul (by omega) (by omega)
        have h2 : ((K * M : Nat) : Int) ≤ 4294967296 := by omega
        simpa using h2
      have hmul0 : 0 ≤ (K : Int) * (M : Int) := by
        have : (0 : Int) ≤ ((K * M : Nat) : Int) := by omega
        simpa using this
      by_cases e1 : n1 = M
      · have e1b : (((n1 : Nat) : Int) != ((M : Nat) : Int)) = false := by rw [bne_eq_false_iff_eq]; omega
        have E1 : Hid (n1 = M) := e1
        clear e1
        by_cases e2 : (n2 : Int) = (K : Int) * (M : Int)
        · have e2b : (((n2 : Nat) : Int) != (K : Int) * (M : Int)) = false := by rw [bne_eq_false_iff_eq]; exact e2
          have E2 : Hid ((n2 : Int) = (K : Int) * (M : Int)) := e2
          clear e2
          have key : ∀ (hv : a3 ≠ none → n3 = n2), (∀ x ∈ inputs, nem x = true) → ShapeIs mask inputs n2 a3 n3 := fun hv hh => by
            have h0 := E1.out
            have h1 := E2.out
            have h2 := HN1.out
            have h3 := HF.out
            have h4 := HT.out
            refine ⟨by omega, ?_, hv, hh⟩
            rw [← h3, ← h4]
            exact_mod_cast h1
          have KEY : Hid (∀ (hv : a3 ≠ none → n3 = n2), (∀ x ∈ inputs, nem x = true) → ShapeIs mask inputs n2 a3 n3) := key
          clear key
          -- the loop over the inputs, whatever stood ahead of it
          by_cases e3 : a3 ≠ none → n3 = n2
          · have E3 : Hid (a3 ≠ none → n3 = n2) := e3
            clear e3
            cases a3 with
            | none =>
              have hnil := ne_nil_none Try.underlying22 n3 c3
              go_wp2
              clear hnil
              go_loop [12] (fun i => ∃ c : Nat, c ≤ M ∧ i = .int .i64 c ∧ Hid (∀ q, q < c → ∀ h : q < inputs.length, nem inputs[q] = true)) (fun i => M - (intOf i).toNat)
              case atStart => exact ⟨0, Nat.zero_le _, rfl, fun q hq => by omega⟩
              case round =>
                obtain ⟨c, hcM, rfl, HH⟩ := hrel
                by_cases hlt : c < M
                · have hcx : c < inputs.length := by have := HN1.out; have := E1.out; omega
                  have hcn : (c : Int) < (n1 : Int) := by have := E1.out; omega
                  obtain ⟨b, o, hp, hc⟩ := hr1 c hcx
                  cases hp
                  by_cases hx : inputs[c].toList.isEmpty = true
                  · go_wp2
                    go_ret
                    exact ⟨.no rfl, rfl⟩
                  · have hx' : inputs[c].toList.isEmpty = false := by simpa using hx
                    clear hx
                    go_wp2
                    go_round
                    case rel =>
                      refine ⟨c + 1, by omega, by go_num, fun q hq h => ?_⟩
                      by_cases e : q = c
                      · subst e; exact nem_true hx'
                      · exact HH q (by omega) h
                    case measure => simp [intOf]; omega
                · go_wp2
                  go_ret
                  refine ⟨.yes rfl (KEY.out E3.out fun x hx => ?_), rfl⟩
                  obtain ⟨q, hq, rfl⟩ := List.getElem_of_mem hx
                  exact HH.out q (by have := HN1.out; have := E1.out; omega) hq
            | some p3 =>
              have hnil := ne_nil_some Try.underlying22 p3 n3 c3
              have e3b : (((n3 : Nat) : Int) != ((n2 : Nat) : Int)) = false := by rw [bne_eq_false_iff_eq]; have := E3.out (by simp); omega
              go_wp2
              clear hnil
              go_loop [12] (fun i => ∃ c : Nat, c ≤ M ∧ i = .int .i64 c ∧ Hid (∀ q, q < c → ∀ h : q < inputs.length, nem inputs[q] = true)) (fun i => M - (intOf i).toNat)
              case atStart => exact ⟨0, Nat.zero_le _, rfl, fun q hq => by omega⟩
              case round =>
                obtain ⟨c, hcM, rfl, HH⟩ := hrel
                by_cases hlt : c < M
                · have hcx : c < inputs.length := by have := HN1.out; have := E1.out; omega
                  have hcn : (c : Int) < (n1 : Int) := by have := E1.out; omega
                  obtain ⟨b, o, hp, hc⟩ := hr1 c hcx
                  cases hp
                  by_cases hx : inputs[c].toList.isEmpty = true
                  · go_wp2
                    go_ret
                    exact ⟨.no rfl, rfl⟩
                  · have hx' : inputs[c].toList.isEmpty = false := by simpa using hx
                    clear hx
                    go_wp2
                    go_round
                    case rel =>
                      refine ⟨c + 1, by omega, by go_num, fun q hq h => ?_⟩
                      by_cases e : q = c
                      · subst e; exact nem_true hx'
                      · exact HH q (by omega) h
                    case measure => simp [intOf]; omega
                · go_wp2
                  go_ret
                  refine ⟨.yes rfl (KEY.out E3.out fun x hx => ?_), rfl⟩
                  obtain ⟨q, hq, rfl⟩ := List.getElem_of_mem hx
                  exact HH.out q (by have := HN1.out; have := E1.out; omega) hq
          · cases a3 with
            | none => exact absurd (fun h => absurd rfl h) e3
            | some p3 =>
              have hnil := ne_nil_some Try.underlying22 p3 n3 c3
              have e3b : (((n3 : Nat) : Int) != ((n2 : Nat) : Int)) = true := by rw [bne_iff_ne]; intro h; exact e3 fun _ => by omega
              clear e3 KEY
              go_wp2
              go_ret
              exact ⟨.no rfl, rfl⟩
        · have e2b : (((n2 : Nat) : Int) != (K : Int) * (M : Int)) = true := by rw [bne_iff_ne]; exact e2
          clear e2
          go_wp2
          go_ret
          exact ⟨.no rfl, rfl⟩
      · have e1b : (((n1 : Nat) : Int) != ((M : Nat) : Int)) = true := by rw [bne_iff_ne]; omega
        clear e1
        go_wp2
        go_ret
        exact ⟨.no rfl, rfl⟩

/-- f is faulty, t is correct, both within the mask. -/
structure PairIs (mask : List Bool) (f t : Int) : Prop where
  f1 : 1 ≤ f
  f2 : f ≤ mask.length
  t1 : 1 ≤ t
  t2 : t ≤ mask.length
  mf : mask.getD (f - 1).toNat false = true
  mt : mask.getD (t - 1).toNat true = false

set_option maxHeartbeats 2000000 in
theorem claimPremise_any (a0 a1 a2 a3 : Option Addr) (n0 n1 n2 n3 c0 c1 c2 c3 : Nat) (mask : List Bool) (inputs : List ByteArray) (to about : Int) (w : World) (hl0 : n0 ≤ 65536) (hl1 : n1 ≤ 65536) (hl2 : n2 ≤ 65536) (hl3 : n3 ≤ 65536) (hn0 : mask.length = n0) (hn1 : inputs.length = n1) (hr0 : Reads Value.bool w a0 mask) (hr1 : Reads Value.string w a1 inputs) :
    Calls Try.prog 23 #[.slice a0 n0 c0, .slice a1 n1 c1, .slice a2 n2 c2, .slice a3 n3 c3, .int .i64 to, .int .i64 about] w fun e w' => SaysIf (ShapeIs mask inputs n2 a3 n3 ∧ PairIs mask about to) e ∧ w' = w := by
  have HN0 : Hid (mask.length = n0) := hn0
  have HC : Hid (Calls Try.prog 25 #[.slice a0 n0 c0, .slice a1 n1 c1, .slice a2 n2 c2, .slice a3 n3 c3] w fun e w' => SaysIf (ShapeIs mask inputs n2 a3 n3) e ∧ w' = w) := tallyShape_any a0 a1 a2 a3 n0 n1 n2 n3 c0 c1 c2 c3 mask inputs w hl0 hl1 hl2 hl3 hn0 hn1 hr0 hr1
  clear hn0 hn1 hr1
  by_cases hin : 1 ≤ about ∧ about ≤ n0 ∧ 1 ≤ to ∧ to ≤ n0
  · obtain ⟨hi1, hi2, hi3, hi4⟩ := hin
    obtain ⟨A, rfl⟩ : ∃ A : Nat, about = (A : Int) + 1 := ⟨(about - 1).toNat, by omega⟩
    obtain ⟨T, rfl⟩ : ∃ T : Nat, to = (T : Int) + 1 := ⟨(to - 1).toNat, by omega⟩
    have hAx : A < mask.length := by have := HN0.out; omega
    have hTx : T < mask.length := by have := HN0.out; omega
    obtain ⟨b, o, hp, hcA⟩ := hr0 A hAx
    cases hp
    have hcT := hr0.at rfl hTx
    have hA1 : (A : Int) < (n0 : Int) := by omega
    have hT1 : (T : Int) < (n0 : Int) := by omega
    clear hr0
    by_cases mA : mask[A] = true
    · have MA : Hid (mask[A] = true) := mA
      rw [mA] at hcA
      clear mA
      by_cases mT : mask[T] = true
      · rw [mT] at hcT
        clear mT
        go_enter Try.func23, Try.ntmps23
        go_wp2
        go_ret
        exact ⟨.no rfl, rfl⟩
      · have mT' : mask[T] = false := by simpa using mT
        have MT : Hid (mask[T] = false) := mT'
        rw [mT'] at hcT
        clear mT mT'
        go_enter Try.func23, Try.ntmps23
        go_wp2_with fail
        refine HC.out.mono ?_
        rintro e w' ⟨⟨b, rfl, hb⟩, rfl⟩
        go_wp2
        go_ret
        refine ⟨⟨b, rfl, fun h => ⟨hb h, by omega, by omega, by omega, by omega, ?_, ?_⟩⟩, rfl⟩
        · have : ((A : Int) + 1 - 1).toNat = A := by omega
          rw [this, List.getD_eq_getElem?_getD, List.getElem?_eq_getElem hAx]
          exact MA.out
        · have : ((T : Int) + 1 - 1).toNat = T := by omega
          rw [this, List.getD_eq_getElem?_getD, List.getElem?_eq_getElem hTx]
          exact MT.out
    · have mA' : mask[A] = false := by simpa using mA
      rw [mA'] at hcA
      clear mA mA'
      go_enter Try.func23, Try.ntmps23
      go_wp2
      go_ret
      exact ⟨.no rfl, rfl⟩
  · clear hr0
    go_enter Try.func23, Try.ntmps23
    go_wp2
    all_goals (go_ret; exact ⟨.no rfl, rfl⟩)
end Go.Proofs.Qxb6604777a
