/-
  The walks over a column: emptyAfter, summary, allAgree.
-/
import Derived.Test.Qxb6604777aBase
import Derived.Test.Qxb6604777aPlain
import Derived.Deep.QuietTactic
import Derived.BigQuiet
namespace Go.Proofs.Qxb6604777a
set_option linter.unusedSimpArgs false
set_option linter.unusedVariables false
open Go.RowKit

theorem emptyAfter_any (a : Option Addr) (cap n : Nat) (c hi : Nat) (xs : List ByteArray) (w : World) (hl : n ≤ 1048576) (hn : xs.length = n) (hhi : hi ≤ n) (hc : c ≤ n) (hr : Reads Value.string w a xs) :
    Calls Try.prog 17 #[.slice a n cap, .int .i64 c, .int .i64 hi] w fun e w' => (∃ b, e = .returned (.bool b) ∧ (b = true → Hid (∀ j, c < j → j < hi → ∀ h : j < xs.length, nem xs[j] = false))) ∧ w' = w := by
  have HN : Hid (xs.length = n) := hn
  clear hn
  go_enter Try.func17, Try.ntmps17
  go_wp2
  go_loop [7] (fun i => ∃ k : Nat, c + 1 ≤ k ∧ (k ≤ hi ∨ k = c + 1) ∧ i = .int .i64 k ∧ Hid (∀ j, c < j → j < k → j < hi → ∀ h : j < xs.length, nem xs[j] = false)) (fun i => hi - (intOf i).toNat)
  case atStart => exact ⟨c + 1, Nat.le_refl _, .inr rfl, by go_num, fun j h1 h2 => by omega⟩
  case round =>
    obtain ⟨k, hck, hk, rfl, H⟩ := hrel
    by_cases hlt : k < hi
    · have hkx : k < xs.length := by have := HN.out; omega
      obtain ⟨b, o, hp, hc⟩ := hr k hkx
      cases hp
      by_cases hx : xs[k].toList.isEmpty = true
      · go_wp2
        go_round
        case rel =>
          refine ⟨k + 1, by omega, by omega, by go_num, fun j h1 h2 h3 h => ?_⟩
          by_cases e : j = k
          · subst e; exact nem_false hx
          · exact H j h1 (by omega) h3 h
        case measure => simp [intOf]; omega
      · have hx' : xs[k].toList.isEmpty = false := by simpa using hx
        clear hx
        go_wp2
        go_ret
        exact ⟨.inl rfl, rfl⟩
    · go_wp2
      go_ret
      exact ⟨.inr ⟨rfl, fun j h1 h2 h => H j h1 (by omega) h2 h⟩, rfl⟩

set_option maxHeartbeats 1000000 in
theorem summary_any (a : Option Addr) (cap n : Nat) (lo m : Nat) (xs : List ByteArray) (w : World) (hl : n ≤ 1048576) (hn : xs.length = n) (hhi : lo + m ≤ n) (hr : Reads Value.string w a xs) (hz : Int) (hzz : hz = (lo : Int) + (m : Int)) :
    Calls Try.prog 18 #[.slice a n cap, .int .i64 lo, .int .i64 hz] w fun e w' => e = .returned (.tuple #[.int .i64 (presC (colAt xs lo m)), .int .i64 (eqC (colAt xs lo m)), .string (refC (colAt xs lo m))]) ∧ w' = w := by
  have HN : Hid (xs.length = n) := hn
  clear hn
  subst hzz
  go_enter Try.func18, Try.ntmps18
  go_wp2
  go_loop [9, 10, 11] (fun p r i => ∃ k : Nat, k ≤ m ∧ i = .int .i64 (lo + k) ∧ p = .int .i64 (presC (colAt xs lo k)) ∧ r = .string (refC (colAt xs lo k))) (fun _ _ i => lo + m - (intOf i).toNat)
  case atStart => exact ⟨0, Nat.zero_le _, by go_num, by rw [colAt_zero]; rfl, by rw [colAt_zero]; rfl⟩
  case round =>
    obtain ⟨k, hk, rfl, rfl, rfl⟩ := hrel
    by_cases hlt : k < m
    · have hkx : lo + k < xs.length := by have := HN.out; omega
      have hpl : presC (colAt xs lo k) ≤ k := by
        have h1 := presC_le (colAt xs lo k)
        have h2 := colAt_length xs lo k (by omega)
        omega
      have HS : Hid (colAt xs lo (k + 1) = colAt xs lo k ++ [xs[lo + k]]) := colAt_succ xs lo k hkx
      obtain ⟨b, o, hp, hc⟩ := hr (lo + k) hkx
      cases hp
      by_cases hx : xs[lo + k].toList.isEmpty = true
      · go_wp2
        go_round
        case rel => exact ⟨k + 1, by omega, by go_num, by rw [HS.out, presC_snoc_false (nem_false hx)], by rw [HS.out, refC_snoc_empty (nem_false hx)]⟩
        case measure => simp [intOf]; omega
      · have hx' : xs[lo + k].toList.isEmpty = false := by simpa using hx
        clear hx
        by_cases h0 : presC (colAt xs lo k) = 0
        · have H0 : Hid (presC (colAt xs lo k) = 0) := h0
          have h0' : (((presC (colAt xs lo k) : Nat) : Int) == 0) = true := by rw [h0]; rfl
          clear h0
          go_wp2
          go_round
          case rel => exact ⟨k + 1, by omega, by go_num, by rw [HS.out, presC_snoc_true (nem_true hx')]; go_num, by rw [HS.out, refC_snoc_first H0.out (nem_true hx')]⟩
          case measure => simp [intOf]; omega
        · have h0' : (((presC (colAt xs lo k) : Nat) : Int) == 0) = false := by rw [beq_eq_false_iff_ne]; omega
          have H0 : Hid (presC (colAt xs lo k) ≠ 0) := h0
          clear h0
          go_wp2
          go_round
          case rel => exact ⟨k + 1, by omega, by go_num, by rw [HS.out, presC_snoc_true (nem_true hx')]; go_num, by rw [HS.out, refC_snoc_later H0.out]⟩
          case measure => simp [intOf]; omega
    · obtain rfl : k = m := by omega
      clear hlt hk
      generalize hR : refC (colAt xs lo k) = R at *
      have HR : Hid (refC (colAt xs lo k) = R) := hR
      clear hR
      generalize hP : presC (colAt xs lo k) = P at *
      have HP : Hid (presC (colAt xs lo k) = P) := hP
      clear hP
      go_wp2
      go_loop [12, 13] (fun p i => ∃ j : Nat, j ≤ k ∧ i = .int .i64 (lo + j) ∧ p = .int .i64 (eqW R (colAt xs lo j))) (fun _ i => lo + k - (intOf i).toNat)
      case atStart => exact ⟨0, Nat.zero_le _, by go_num, by rw [colAt_zero]; rfl⟩
      case round =>
        obtain ⟨j, hj, rfl, rfl⟩ := hrel
        by_cases hlt : j < k
        · have hkx : lo + j < xs.length := by have := HN.out; omega
          have hel : eqW R (colAt xs lo j) ≤ j := by
            have h1 := eqW_le R (colAt xs lo j)
            have h2 := colAt_length xs lo j (by omega)
            omega
          have HS : Hid (colAt xs lo (j + 1) = colAt xs lo j ++ [xs[lo + j]]) := colAt_succ xs lo j hkx
          obtain ⟨b, o, hp, hc⟩ := hr (lo + j) hkx
          cases hp
          by_cases hx : xs[lo + j].toList.isEmpty = true
          · go_wp2
            go_round
            case rel => exact ⟨j + 1, by omega, by go_num, by rw [HS.out, eqW_snoc_false (.inl (nem_false hx))]⟩
            case measure => simp [intOf]; omega
          · have hx' : xs[lo + j].toList.isEmpty = false := by simpa using hx
            clear hx
            by_cases he : (xs[lo + j].toList == R.toList) = true
            · go_wp2
              go_round
              case rel => exact ⟨j + 1, by omega, by go_num, by rw [HS.out, eqW_snoc_true (nem_true hx') he]; go_num⟩
              case measure => simp [intOf]; omega
            · have he' : (xs[lo + j].toList == R.toList) = false := by simpa using he
              clear he
              go_wp2
              go_round
              case rel => exact ⟨j + 1, by omega, by go_num, by rw [HS.out, eqW_snoc_false (.inr he')]⟩
              case measure => simp [intOf]; omega
        · obtain rfl : j = k := by omega
          go_wp2
          go_ret3
          exact ⟨by rw [eqC, HR.out, HP.out]; rfl, rfl⟩

set_option maxHeartbeats 1000000 in
theorem allAgree_any (a : Option Addr) (cap n : Nat) (lo m : Nat) (xs : List ByteArray) (w : World) (hl : n ≤ 1048576) (hn : xs.length = n) (hhi : lo + m ≤ n) (hr : Reads Value.string w a xs) (hz : Int) (hzz : hz = (lo : Int) + (m : Int)) :
    Calls Try.prog 20 #[.slice a n cap, .int .i64 lo, .int .i64 hz] w fun e w' => e = .returned (.bool (agrC (colAt xs lo m))) ∧ w' = w := by
  have HN : Hid (xs.length = n) := hn
  clear hn
  subst hzz
  go_enter Try.func20, Try.ntmps20
  go_wp2
  go_loop [7, 8] (fun r i => ∃ k : Nat, k ≤ m ∧ i = .int .i64 (lo + k) ∧ r = .string (refC (colAt xs lo k)) ∧ Hid (agrC (colAt xs lo k) = true)) (fun _ i => lo + m - (intOf i).toNat)
  case atStart => exact ⟨0, Nat.zero_le _, by go_num, by rw [colAt_zero]; rfl, by rw [colAt_zero]; exact agrC_nil⟩
  case round =>
    obtain ⟨k, hk, rfl, rfl, HA⟩ := hrel
    by_cases hlt : k < m
    · have hkx : lo + k < xs.length := by have := HN.out; omega
      have HS : Hid (colAt xs lo (k + 1) = colAt xs lo k ++ [xs[lo + k]]) := colAt_succ xs lo k hkx
      have HT : Hid (colAt xs lo m = colAt xs lo k ++ xs[lo + k] :: (xs.drop (lo + k + 1)).take (m - k - 1)) := colAt_split xs lo k m hlt (by have := HN.out; omega)
      obtain ⟨b, o, hp, hc⟩ := hr (lo + k) hkx
      cases hp
      by_cases hx : xs[lo + k].toList.isEmpty = true
      · go_wp2
        go_round
        case rel => exact ⟨k + 1, by omega, by go_num, by rw [HS.out, refC_snoc_empty (nem_false hx)], by rw [HS.out]; exact agrC_snoc_empty HA (nem_false hx)⟩
        case measure => simp [intOf]; omega
      · have hx' : xs[lo + k].toList.isEmpty = false := by simpa using hx
        clear hx
        by_cases h0 : presC (colAt xs lo k) = 0
        · have H0 : Hid (presC (colAt xs lo k) = 0) := h0
          have h0' : (refC (colAt xs lo k)).toList.isEmpty = true := by have := presC_zero.1 h0; simpa [nem] using this
          clear h0
          go_wp2
          go_round
          case rel => exact ⟨k + 1, by omega, by go_num, by rw [HS.out, refC_snoc_first H0.out (nem_true hx')], by rw [HS.out]; exact agrC_snoc_first H0.out (nem_true hx')⟩
          case measure => simp [intOf]; omega
        · have h0' : (refC (colAt xs lo k)).toList.isEmpty = false := by have := refC_some h0; simpa [nem] using this
          have H0 : Hid (presC (colAt xs lo k) ≠ 0) := h0
          clear h0
          by_cases he : (xs[lo + k].toList == (refC (colAt xs lo k)).toList) = true
          · go_wp2
            go_round
            case rel => exact ⟨k + 1, by omega, by go_num, by rw [HS.out, refC_snoc_later H0.out], by rw [HS.out]; exact agrC_snoc_same HA H0.out he⟩
            case measure => simp [intOf]; omega
          · have he' : (xs[lo + k].toList == (refC (colAt xs lo k)).toList) = false := by simpa using he
            clear he
            go_wp2
            go_ret
            exact ⟨ret_bool (by rw [HT.out, agrC_parts H0.out (nem_true hx') he']), rfl⟩
    · obtain rfl : k = m := by omega
      go_wp2
      go_ret
      exact ⟨ret_bool HA.out.symm, rfl⟩
end Go.Proofs.Qxb6604777a
