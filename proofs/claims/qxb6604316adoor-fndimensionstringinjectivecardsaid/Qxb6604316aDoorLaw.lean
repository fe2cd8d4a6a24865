/-
  The walks of 'Dimension.String' and of 'FnDimensionStringInjective', the callee 'strconv.Itoa' taken as a hypothesis.
-/
import Derived.Test.Qxb6604316aDoorProg
import Derived.Test.Qxb6604316aDoorPlain
import Derived.WalkKit
namespace Go.Proofs.Qxb6604316aDoor
open Go.RowKit

theorem ba_append (a b : List UInt8) : ((⟨a.toArray⟩ : ByteArray) ++ (⟨b.toArray⟩ : ByteArray)) = ⟨(a ++ b).toArray⟩ := by
  apply ByteArray.ext
  simp [ByteArray.data_append]

theorem str1 (w : World) : Calls Tryd.prog 4 #[.int .u8 1] w fun e w' => e = .returned (.string ⟨(Plain.dimText 1).toArray⟩) ∧ w' = w := by
  go_enter Tryd.func4, Tryd.ntmps4
  go_wp2
  go_ret
  exact ⟨rfl, rfl⟩
theorem str2 (w : World) : Calls Tryd.prog 4 #[.int .u8 2] w fun e w' => e = .returned (.string ⟨(Plain.dimText 2).toArray⟩) ∧ w' = w := by
  go_enter Tryd.func4, Tryd.ntmps4
  go_wp2
  go_ret
  exact ⟨rfl, rfl⟩
theorem str3 (w : World) : Calls Tryd.prog 4 #[.int .u8 3] w fun e w' => e = .returned (.string ⟨(Plain.dimText 3).toArray⟩) ∧ w' = w := by
  go_enter Tryd.func4, Tryd.ntmps4
  go_wp2
  go_ret
  exact ⟨rfl, rfl⟩

theorem strN (n : Int) (w : World) (hn0 : 0 ≤ n) (hn : n < 256) (h1 : n ≠ 1) (h2 : n ≠ 2) (h3 : n ≠ 3) (R : World → Prop)
    (hI : Calls Tryd.prog 5 #[.int .i64 n] w fun e w' => e = .returned (.string ⟨(Lib.itoa n).toArray⟩) ∧ R w') :
    Calls Tryd.prog 4 #[.int .u8 n] w fun e w' => e = .returned (.string ⟨(Plain.dimText n.toNat).toArray⟩) ∧ R w' := by
  have e1 : (n == 1) = false := by simpa using h1
  have e2 : (n == 2) = false := by simpa using h2
  have e3 : (n == 3) = false := by simpa using h3
  have HI : Hid (Calls Tryd.prog 5 #[.int .i64 n] w fun e w' => e = .returned (.string ⟨(Lib.itoa n).toArray⟩) ∧ R w') := hI
  clear hI
  go_enter Tryd.func4, Tryd.ntmps4
  go_wp2_with fail
  refine (HI.out).mono ?_
  rintro e w' ⟨rfl, hR⟩
  have hlen : (Lib.itoa n).length ≤ 3 := by
    have : Lib.itoa n = Lib.decDigits n.toNat := by unfold Lib.itoa; rw [if_neg (by omega)]
    rw [this]; exact Plain.decDigits_len _ (by omega)
  have hfin : Plain.dimText n.toNat = [68, 105, 109, 101, 110, 115, 105, 111, 110, 40] ++ Lib.itoa n ++ [41] := by
    have : Lib.itoa n = Lib.decDigits n.toNat := by unfold Lib.itoa; rw [if_neg (by omega)]
    rw [this]; exact Plain.dimText_far _ (by omega) (by omega) (by omega)
  have HF : Hid (Plain.dimText n.toNat = [68, 105, 109, 101, 110, 115, 105, 111, 110, 40] ++ Lib.itoa n ++ [41]) := hfin
  clear hfin HI
  generalize Lib.itoa n = l at *
  go_wp2
  go_ret
  refine ⟨?_, hR⟩
  rw [HF.out]
  have := ba_append [68, 105, 109, 101, 110, 115, 105, 111, 110, 40] l
  have t2 := ba_append ([68, 105, 109, 101, 110, 115, 105, 111, 110, 40] ++ l) [41]
  show Ending.returned (Value.string ((⟨[68, 105, 109, 101, 110, 115, 105, 111, 110, 40].toArray⟩ ++ ⟨l.toArray⟩ : ByteArray) ++ ⟨[41].toArray⟩)) = _
  rw [this, t2]

/-- Dimension.String at whatever dimension, over a callee that keeps an invariant of the world. -/
theorem str_any (n : Int) (w : World) (hn0 : 0 ≤ n) (hn : n < 256) (R : World → Prop) (hw : R w)
    (hI : Calls Tryd.prog 5 #[.int .i64 n] w fun e w' => e = .returned (.string ⟨(Lib.itoa n).toArray⟩) ∧ R w') :
    Calls Tryd.prog 4 #[.int .u8 n] w fun e w' => e = .returned (.string ⟨(Plain.dimText n.toNat).toArray⟩) ∧ R w' := by
  by_cases h1 : n = 1
  · subst h1
    exact (str1 w).mono fun e w' ⟨he, hw'⟩ => ⟨he, by rw [hw']; exact hw⟩
  · by_cases h2 : n = 2
    · subst h2
      exact (str2 w).mono fun e w' ⟨he, hw'⟩ => ⟨he, by rw [hw']; exact hw⟩
    · by_cases h3 : n = 3
      · subst h3
        exact (str3 w).mono fun e w' ⟨he, hw'⟩ => ⟨he, by rw [hw']; exact hw⟩
      · exact strN n w hn0 hn h1 h2 h3 R hI

/-- The last test: both sides say the same. -/
theorem law_plain (a b : Int) (ha : 0 ≤ a) (hb : 0 ≤ b) : ((a == b) == (Plain.dimText a.toNat == Plain.dimText b.toNat)) = true := by
  by_cases h : a = b
  · subst h; simp
  · have h2 : ¬ Plain.dimText a.toNat = Plain.dimText b.toNat := fun e => h (by have := Plain.dimText_inj _ _ e; omega)
    rw [beq_eq_false_iff_ne.2 h, beq_eq_false_iff_ne.2 h2]
    rfl

theorem law_walk (a b : Int) (w : World) (ha0 : 0 ≤ a) (ha : a < 256) (hb0 : 0 ≤ b) (hb : b < 256) (R : World → Prop) (hw : R w)
    (hI : ∀ n w, 0 ≤ n → n < 256 → R w → Calls Tryd.prog 5 #[.int .i64 n] w fun e w' => e = .returned (.string ⟨(Lib.itoa n).toArray⟩) ∧ R w') :
    Calls Tryd.prog 3 #[.int .u8 a, .int .u8 b] w fun e w' => e = .returned (.bool true) ∧ R w' := by
  have HA : Hid (∀ w, R w → Calls Tryd.prog 4 #[.int .u8 a] w fun e w' => e = .returned (.string ⟨(Plain.dimText a.toNat).toArray⟩) ∧ R w') := fun w h => str_any a w ha0 ha R h (hI a w ha0 ha h)
  have HB : Hid (∀ w, R w → Calls Tryd.prog 4 #[.int .u8 b] w fun e w' => e = .returned (.string ⟨(Plain.dimText b.toNat).toArray⟩) ∧ R w') := fun w h => str_any b w hb0 hb R h (hI b w hb0 hb h)
  have HL : Hid (((a == b) == (Plain.dimText a.toNat == Plain.dimText b.toNat)) = true) := law_plain a b ha0 hb0
  clear hI
  generalize Plain.dimText a.toNat = sa at *
  generalize Plain.dimText b.toNat = sb at *
  go_enter Tryd.func3, Tryd.ntmps3
  go_wp2_with fail
  refine (HA.out w hw).mono ?_
  rintro e w1 ⟨rfl, hw1⟩
  go_wp2_with fail
  refine (HB.out w1 hw1).mono ?_
  rintro e w2 ⟨rfl, hw2⟩
  go_wp2
  go_ret
  exact ⟨by rw [HL.out]; rfl, hw2⟩
end Go.Proofs.Qxb6604316aDoor
