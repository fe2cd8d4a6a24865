/-
  The functions that copy a slice: cloneStrings, cloneBools, zzValues, zzStrings.
-/
import Derived.Test.Qxb6604777aBase
namespace Go.Proofs.Qxb6604777a
set_option linter.unusedSimpArgs false
set_option linter.unusedVariables false
open Go.RowKit

/-- Function 13: the slice copied. -/
theorem cloneStrings_some (p : Addr) (cap n : Nat) (xs : List ByteArray) (w : World) (hl : n ≤ 1048576) (hn : xs.length = n) (hr : Reads Value.string w (some p) xs) :
    Calls Try.prog 13 #[.slice (some p) n cap] w fun e w' => e = .returned (.slice (some ⟨w.heap.size, 0, none⟩) n n) ∧ Own Value.string 9 w' w.heap.size n xs ∧ Below w.heap.size w w' ∧ w'.heap.size = w.heap.size + 1 := by
  have hmk := run_make_row' (P := Try.prog) 23 9 (.string ByteArray.empty) 16 Try.underlying23 info9 rfl .i64 .i64 n (by omega) (by omega)
  have hnil := eq_nil_some Try.underlying23 p n cap
  have HN : Hid (xs.length = n) := hn
  clear hn
  go_enter Try.func13, Try.ntmps13
  go_wp2
  clear hmk hnil
  go_loopw [4] (fun i wr => ∃ k : Nat, k ≤ n ∧ i = .int .i64 k ∧ Own Value.string 9 wr w.heap.size n (xs.take k) ∧ Below w.heap.size w wr ∧ wr.heap.size = w.heap.size + 1) (fun i _ => n - (intOf i).toNat)
  case atStart => exact ⟨0, Nat.zero_le _, rfl, Own.made_none _ _ _ _, (Below.refl _ _).alloc (Nat.le_refl _) _, by simp⟩
  case round =>
    obtain ⟨k, hk, rfl, hown, hb, hsz⟩ := hrel
    by_cases hlt : k < n
    · have hkx : k < xs.length := by have := HN.out; omega
      obtain ⟨b, o, hp, hc⟩ := hr k hkx
      cases hp
      have hbl : b < w.heap.size := lt_of_cell hc
      have hc' : wr.cell? ⟨b, o + k, none⟩ = some (Value.string xs[k]) := (hb.cell hbl).trans hc
      obtain ⟨v0, hv0⟩ := hown.there hlt
      have hfz := hown.frozen k
      clear hc
      go_wp2
      have hn := HN.out
      have hpush := hown.push (by rw [List.length_take]; omega) xs[k]
      have e1 : (xs.take k).length = k := by rw [List.length_take]; omega
      rw [e1, ← List.take_succ_eq_append_getElem (by omega)] at hpush
      go_roundw
      case rel => exact ⟨k + 1, by omega, by go_num, hpush, hb.setCell (by exact Nat.le_refl _) _, by simpa using hsz⟩
      case measure => simp [intOf]; omega
    · obtain rfl : k = n := by omega
      go_wp2
      go_ret
      have hn := HN.out
      exact ⟨rfl, by rw [List.take_of_length_le (by omega)] at hown; exact hown, hb, hsz⟩

theorem cloneStrings_none (n cap : Nat) (w : World) : Calls Try.prog 13 #[.slice none n cap] w fun e w' => e = .returned (.slice none 0 0) ∧ w' = w := by
  have hnil := eq_nil_none Try.underlying23 n cap
  go_enter Try.func13, Try.ntmps13
  go_wp2
  go_ret
  exact ⟨rfl, rfl⟩

/-- Function 29: the slice copied. -/
theorem cloneBools_some (p : Addr) (cap n : Nat) (xs : List Bool) (w : World) (hl : n ≤ 1048576) (hn : xs.length = n) (hr : Reads Value.bool w (some p) xs) :
    Calls Try.prog 29 #[.slice (some p) n cap] w fun e w' => e = .returned (.slice (some ⟨w.heap.size, 0, none⟩) n n) ∧ Own Value.bool 4 w' w.heap.size n xs ∧ Below w.heap.size w w' ∧ w'.heap.size = w.heap.size + 1 := by
  have hmk := run_make_row' (P := Try.prog) 22 4 (.bool false) 1 Try.underlying22 info4 rfl .i64 .i64 n (by omega) (by omega)
  have hnil := eq_nil_some Try.underlying22 p n cap
  have HN : Hid (xs.length = n) := hn
  clear hn
  go_enter Try.func29, Try.ntmps29
  go_wp2
  clear hmk hnil
  go_loopw [4] (fun i wr => ∃ k : Nat, k ≤ n ∧ i = .int .i64 k ∧ Own Value.bool 4 wr w.heap.size n (xs.take k) ∧ Below w.heap.size w wr ∧ wr.heap.size = w.heap.size + 1) (fun i _ => n - (intOf i).toNat)
  case atStart => exact ⟨0, Nat.zero_le _, rfl, Own.made_none _ _ _ _, (Below.refl _ _).alloc (Nat.le_refl _) _, by simp⟩
  case round =>
    obtain ⟨k, hk, rfl, hown, hb, hsz⟩ := hrel
    by_cases hlt : k < n
    · have hkx : k < xs.length := by have := HN.out; omega
      obtain ⟨b, o, hp, hc⟩ := hr k hkx
      cases hp
      have hbl : b < w.heap.size := lt_of_cell hc
      have hc' : wr.cell? ⟨b, o + k, none⟩ = some (Value.bool xs[k]) := (hb.cell hbl).trans hc
      obtain ⟨v0, hv0⟩ := hown.there hlt
      have hfz := hown.frozen k
      clear hc
      go_wp2
      have hn := HN.out
      have hpush := hown.push (by rw [List.length_take]; omega) xs[k]
      have e1 : (xs.take k).length = k := by rw [List.length_take]; omega
      rw [e1, ← List.take_succ_eq_append_getElem (by omega)] at hpush
      go_roundw
      case rel => exact ⟨k + 1, by omega, by go_num, hpush, hb.setCell (by exact Nat.le_refl _) _, by simpa using hsz⟩
      case measure => simp [intOf]; omega
    · obtain rfl : k = n := by omega
      go_wp2
      go_ret
      have hn := HN.out
      exact ⟨rfl, by rw [List.take_of_length_le (by omega)] at hown; exact hown, hb, hsz⟩

theorem cloneBools_none (n cap : Nat) (w : World) : Calls Try.prog 29 #[.slice none n cap] w fun e w' => e = .returned (.slice none 0 0) ∧ w' = w := by
  have hnil := eq_nil_none Try.underlying22 n cap
  go_enter Try.func29, Try.ntmps29
  go_wp2
  go_ret
  exact ⟨rfl, rfl⟩

/-- Function 35: the slice copied. -/
theorem zzValues_some (p : Addr) (cap n : Nat) (xs : List ByteArray) (w : World) (hl : n ≤ 1048576) (hn : xs.length = n) (hr : Reads Value.string w (some p) xs) :
    Calls Try.prog 35 #[.slice (some p) n cap] w fun e w' => e = .returned (.slice (some ⟨w.heap.size, 0, none⟩) n n) ∧ Own Value.string 49 w' w.heap.size n xs ∧ Below w.heap.size w w' ∧ w'.heap.size = w.heap.size + 1 := by
  have hmk := run_make_row' (P := Try.prog) 58 49 (.string ByteArray.empty) 16 Try.underlying58 info49 rfl .i64 .i64 n (by omega) (by omega)
  have hnil := eq_nil_some Try.underlying23 p n cap
  have HN : Hid (xs.length = n) := hn
  clear hn
  go_enter Try.func35, Try.ntmps35
  go_wp2
  clear hmk hnil
  go_loopw [4] (fun i wr => ∃ k : Nat, k ≤ n ∧ i = .int .i64 k ∧ Own Value.string 49 wr w.heap.size n (xs.take k) ∧ Below w.heap.size w wr ∧ wr.heap.size = w.heap.size + 1) (fun i _ => n - (intOf i).toNat)
  case atStart => exact ⟨0, Nat.zero_le _, rfl, Own.made_none _ _ _ _, (Below.refl _ _).alloc (Nat.le_refl _) _, by simp⟩
  case round =>
    obtain ⟨k, hk, rfl, hown, hb, hsz⟩ := hrel
    by_cases hlt : k < n
    · have hkx : k < xs.length := by have := HN.out; omega
      obtain ⟨b, o, hp, hc⟩ := hr k hkx
      cases hp
      have hbl : b < w.heap.size := lt_of_cell hc
      have hc' : wr.cell? ⟨b, o + k, none⟩ = some (Value.string xs[k]) := (hb.cell hbl).trans hc
      obtain ⟨v0, hv0⟩ := hown.there hlt
      have hfz := hown.frozen k
      clear hc
      go_wp2
      have hn := HN.out
      have hpush := hown.push (by rw [List.length_take]; omega) xs[k]
      have e1 : (xs.take k).length = k := by rw [List.length_take]; omega
      rw [e1, ← List.take_succ_eq_append_getElem (by omega)] at hpush
      go_roundw
      case rel => exact ⟨k + 1, by omega, by go_num, hpush, hb.setCell (by exact Nat.le_refl _) _, by simpa using hsz⟩
      case measure => simp [intOf]; omega
    · obtain rfl : k = n := by omega
      go_wp2
      go_ret
      have hn := HN.out
      exact ⟨rfl, by rw [List.take_of_length_le (by omega)] at hown; exact hown, hb, hsz⟩

theorem zzValues_none (n cap : Nat) (w : World) : Calls Try.prog 35 #[.slice none n cap] w fun e w' => e = .returned (.slice none 0 0) ∧ w' = w := by
  have hnil := eq_nil_none Try.underlying23 n cap
  go_enter Try.func35, Try.ntmps35
  go_wp2
  go_ret
  exact ⟨rfl, rfl⟩

/-- Function 38: the slice copied. -/
theorem zzStrings_some (p : Addr) (cap n : Nat) (xs : List ByteArray) (w : World) (hl : n ≤ 1048576) (hn : xs.length = n) (hr : Reads Value.string w (some p) xs) :
    Calls Try.prog 38 #[.slice (some p) n cap] w fun e w' => e = .returned (.slice (some ⟨w.heap.size, 0, none⟩) n n) ∧ Own Value.string 9 w' w.heap.size n xs ∧ Below w.heap.size w w' ∧ w'.heap.size = w.heap.size + 1 := by
  have hmk := run_make_row' (P := Try.prog) 23 9 (.string ByteArray.empty) 16 Try.underlying23 info9 rfl .i64 .i64 n (by omega) (by omega)
  have hnil := eq_nil_some Try.underlying58 p n cap
  have HN : Hid (xs.length = n) := hn
  clear hn
  go_enter Try.func38, Try.ntmps38
  go_wp2
  clear hmk hnil
  go_loopw [4] (fun i wr => ∃ k : Nat, k ≤ n ∧ i = .int .i64 k ∧ Own Value.string 9 wr w.heap.size n (xs.take k) ∧ Below w.heap.size w wr ∧ wr.heap.size = w.heap.size + 1) (fun i _ => n - (intOf i).toNat)
  case atStart => exact ⟨0, Nat.zero_le _, rfl, Own.made_none _ _ _ _, (Below.refl _ _).alloc (Nat.le_refl _) _, by simp⟩
  case round =>
    obtain ⟨k, hk, rfl, hown, hb, hsz⟩ := hrel
    by_cases hlt : k < n
    · have hkx : k < xs.length := by have := HN.out; omega
      obtain ⟨b, o, hp, hc⟩ := hr k hkx
      cases hp
      have hbl : b < w.heap.size := lt_of_cell hc
      have hc' : wr.cell? ⟨b, o + k, none⟩ = some (Value.string xs[k]) := (hb.cell hbl).trans hc
      obtain ⟨v0, hv0⟩ := hown.there hlt
      have hfz := hown.frozen k
      clear hc
      go_wp2
      have hn := HN.out
      have hpush := hown.push (by rw [List.length_take]; omega) xs[k]
      have e1 : (xs.take k).length = k := by rw [List.length_take]; omega
      rw [e1, ← List.take_succ_eq_append_getElem (by omega)] at hpush
      go_roundw
      case rel => exact ⟨k + 1, by omega, by go_num, hpush, hb.setCell (by exact Nat.le_refl _) _, by simpa using hsz⟩
      case measure => simp [intOf]; omega
    · obtain rfl : k = n := by omega
      go_wp2
      go_ret
      have hn := HN.out
      exact ⟨rfl, by rw [List.take_of_length_le (by omega)] at hown; exact hown, hb, hsz⟩

theorem zzStrings_none (n cap : Nat) (w : World) : Calls Try.prog 38 #[.slice none n cap] w fun e w' => e = .returned (.slice none 0 0) ∧ w' = w := by
  have hnil := eq_nil_none Try.underlying58 n cap
  go_enter Try.func38, Try.ntmps38
  go_wp2
  go_ret
  exact ⟨rfl, rfl⟩
end Go.Proofs.Qxb6604777a
