/-
  The plain law of 'FnDimensionStringInjective': the text of a dimension tells the dimension. No Go in sight.
-/
import Derived.Lib.ItoaNum
namespace Go.Proofs.Qxb6604316aDoor.Plain

/-- The number that a row of digits spells. -/
def val (l : List UInt8) : Nat := l.foldl (fun acc c => acc * 10 + (c.toNat - 48)) 0

theorem val_snoc (l : List UInt8) (c : UInt8) : val (l ++ [c]) = val l * 10 + (c.toNat - 48) := by
  simp [val, List.foldl_append]

theorem digit_val (n : Nat) (h : n < 10) : (UInt8.ofNat (48 + n)).toNat - 48 = n := by
  rw [UInt8.toNat_ofNat']
  omega

theorem val_decDigits (u : Nat) : val (Go.Lib.decDigits u) = u := by
  induction u using Nat.strongRecOn with
  | _ u ih =>
    rw [Go.Lib.decDigits]
    by_cases h : u < 10
    · rw [dif_pos h]
      have := val_snoc [] (UInt8.ofNat (48 + u))
      rw [List.nil_append] at this
      rw [this, digit_val u h]
      simp [val]
    · rw [dif_neg h, val_snoc, ih (u / 10) (by omega), digit_val (u % 10) (by omega)]
      omega

/-- The text of dimension d. -/
def dimText (d : Nat) : List UInt8 :=
  if d = 1 then [83, 104, 108, 95, 73, 68]
  else if d = 2 then [79, 98, 112, 95, 73, 68]
  else if d = 3 then [83, 97, 116, 95, 73, 68]
  else [68, 105, 109, 101, 110, 115, 105, 111, 110, 40] ++ Go.Lib.decDigits d ++ [41]

theorem dimText_far (d : Nat) (h1 : d ≠ 1) (h2 : d ≠ 2) (h3 : d ≠ 3) : dimText d = [68, 105, 109, 101, 110, 115, 105, 111, 110, 40] ++ Go.Lib.decDigits d ++ [41] := by
  simp [dimText, h1, h2, h3]

theorem dimText_inj (a b : Nat) (h : dimText a = dimText b) : a = b := by
  by_cases a1 : a = 1
  · by_cases b1 : b = 1
    · omega
    · by_cases b2 : b = 2
      · simp [dimText, a1, b2] at h
      · by_cases b3 : b = 3
        · simp [dimText, a1, b3] at h
        · rw [dimText_far b b1 b2 b3] at h
          simp [dimText, a1] at h
  · by_cases a2 : a = 2
    · by_cases b1 : b = 1
      · simp [dimText, a2, b1] at h
      · by_cases b2 : b = 2
        · omega
        · by_cases b3 : b = 3
          · simp [dimText, a2, b3] at h
          · rw [dimText_far b b1 b2 b3] at h
            simp [dimText, a2] at h
    · by_cases a3 : a = 3
      · by_cases b1 : b = 1
        · simp [dimText, a3, b1] at h
        · by_cases b2 : b = 2
          · simp [dimText, a3, b2] at h
          · by_cases b3 : b = 3
            · omega
            · rw [dimText_far b b1 b2 b3] at h
              simp [dimText, a3] at h
      · rw [dimText_far a a1 a2 a3] at h
        by_cases b1 : b = 1
        · simp [dimText, b1] at h
        · by_cases b2 : b = 2
          · simp [dimText, b2] at h
          · by_cases b3 : b = 3
            · simp [dimText, b3] at h
            · rw [dimText_far b b1 b2 b3] at h
              have h' := List.append_cancel_right h
              have h'' := List.append_cancel_left h'
              have := congrArg val h''
              rwa [val_decDigits, val_decDigits] at this

theorem decDigits_len (d : Nat) (h : d < 256) : (Go.Lib.decDigits d).length ≤ 3 := by
  rw [Go.Lib.decDigits]
  by_cases h1 : d < 10
  · simp [h1]
  · rw [dif_neg h1, Go.Lib.decDigits]
    by_cases h2 : d / 10 < 10
    · simp [h2]
    · rw [dif_neg h2, Go.Lib.decDigits, dif_pos (by omega)]
      simp

#print axioms dimText_inj
end Go.Proofs.Qxb6604316aDoor.Plain
