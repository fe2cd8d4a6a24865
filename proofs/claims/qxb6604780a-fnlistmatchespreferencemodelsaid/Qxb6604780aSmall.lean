/-
  The small functions over slices: who lies within bounds, who is there, copies.
-/
import Derived.Test.Qxb6604780aBase
namespace Go.Proofs.Qxb6604780a
set_option linter.unusedSimpArgs false
set_option linter.unusedVariables false
open Go.RowKit

theorem in26_any (a : Option Addr) (cap n : Nat) (xs : List Int) (m : Int) (w : World) (hl : n ≤ 1048576) (hn : xs.length = n) (hr : Reads (Value.int .i64) w a xs) :
    Calls Try.prog 26 #[.slice a n cap, .int .i64 m] w fun e w' => SaysIf (AllIn xs m) e ∧ w' = w := by
  have HN := hide hn
  have HR := hide hr
  clear hn hr
  go_enter Try.func26, Try.ntmps26
  go_wp2
  go_loop [5] (fun i => ∃ k : Nat, k ≤ n ∧ i = .int .i64 k ∧ Hid (AllInK xs m k)) (fun i => n - (intOf i).toNat)
  case atStart => exact ⟨0, Nat.zero_le _, rfl, fun j hj => by omega⟩
  case round =>
    obtain ⟨k, hk, rfl, hall⟩ := hrel
    by_cases hlt : k < n
    · have hkx : k < xs.length := by have := HN.out; omega
      obtain ⟨b, o, hp, hc⟩ := HR.out k hkx
      cases hp
      have hltI : (k : Int) < (n : Int) := by omega
      by_cases h0 : xs[k] < 0
      · have d0 : decide (xs[k] < 0) = true := by simpa using h0
        go_wp2
        go_ret
        exact ⟨.no rfl, rfl⟩
      · have d0 : decide (xs[k] < 0) = false := by simpa using h0
        by_cases h1 : m ≤ xs[k]
        · have d1 : decide (m ≤ xs[k]) = true := by simpa using h1
          go_wp2
          go_ret
          exact ⟨.no rfl, rfl⟩
        · have d1 : decide (m ≤ xs[k]) = false := by simpa using h1
          go_wp2
          go_round
          case rel =>
            refine ⟨k + 1, by omega, by go_num, fun j hj hjx => ?_⟩
            by_cases e : j = k
            · subst e; omega
            · exact hall j (by omega) hjx
          case measure => simp [intOf]; omega
    · obtain rfl : k = n := by omega
      go_wp2
      go_ret
      exact ⟨.yes rfl fun j hj => hall j (by have := HN.out; omega) hj, rfl⟩

theorem in29_any (a : Option Addr) (cap n : Nat) (xs : List Int) (m : Int) (w : World) (hl : n ≤ 1048576) (hn : xs.length = n) (hr : Reads (Value.int .i64) w a xs) :
    Calls Try.prog 29 #[.slice a n cap, .int .i64 m] w fun e w' => SaysIf (AllIn xs m) e ∧ w' = w := by
  have HN := hide hn
  have HR := hide hr
  clear hn hr
  go_enter Try.func29, Try.ntmps29
  go_wp2
  go_loop [5] (fun i => ∃ k : Nat, k ≤ n ∧ i = .int .i64 k ∧ Hid (AllInK xs m k)) (fun i => n - (intOf i).toNat)
  case atStart => exact ⟨0, Nat.zero_le _, rfl, fun j hj => by omega⟩
  case round =>
    obtain ⟨k, hk, rfl, hall⟩ := hrel
    by_cases hlt : k < n
    · have hkx : k < xs.length := by have := HN.out; omega
      obtain ⟨b, o, hp, hc⟩ := HR.out k hkx
      cases hp
      have hltI : (k : Int) < (n : Int) := by omega
      by_cases h0 : xs[k] < 0
      · have d0 : decide (xs[k] < 0) = true := by simpa using h0
        go_wp2
        go_ret
        exact ⟨.no rfl, rfl⟩
      · have d0 : decide (xs[k] < 0) = false := by simpa using h0
        by_cases h1 : m ≤ xs[k]
        · have d1 : decide (m ≤ xs[k]) = true := by simpa using h1
          go_wp2
          go_ret
          exact ⟨.no rfl, rfl⟩
        · have d1 : decide (m ≤ xs[k]) = false := by simpa using h1
          go_wp2
          go_round
          case rel =>
            refine ⟨k + 1, by omega, by go_num, fun j hj hjx => ?_⟩
            by_cases e : j = k
            · subst e; omega
            · exact hall j (by omega) hjx
          case measure => simp [intOf]; omega
    · obtain rfl : k = n := by omega
      go_wp2
      go_ret
      exact ⟨.yes rfl fun j hj => hall j (by have := HN.out; omega) hj, rfl⟩

/-- Function 32: is x there? -/
theorem has_any (a : Option Addr) (cap n : Nat) (xs : List Int) (x : Int) (w : World) (hl : n ≤ 1048576) (hn : xs.length = n) (hr : Reads (Value.int .i64) w a xs) :
    Calls Try.prog 32 #[.slice a n cap, .int .i64 x] w fun e w' => SaysIf (x ∈ xs) e ∧ w' = w := by
  have HN := hide hn
  have HR := hide hr
  clear hn hr
  go_enter Try.func32, Try.ntmps32
  go_wp2
  go_loop [5] (fun i => ∃ k : Nat, k ≤ n ∧ i = .int .i64 k) (fun i => n - (intOf i).toNat)
  case atStart => exact ⟨0, Nat.zero_le _, rfl⟩
  case round =>
    obtain ⟨k, hk, rfl⟩ := hrel
    by_cases hlt : k < n
    · have hkx : k < xs.length := by have := HN.out; omega
      obtain ⟨b, o, hp, hc⟩ := HR.out k hkx
      cases hp
      have hltI : (k : Int) < (n : Int) := by omega
      by_cases h0 : xs[k] = x
      · have HM : Hid (x ∈ xs) := by rw [← h0]; exact List.getElem_mem hkx
        have d0 : (xs[k] == x) = true := by simpa using h0
        clear h0
        go_wp2
        go_ret
        exact ⟨.yes rfl HM.out, rfl⟩
      · have d0 : (xs[k] == x) = false := by simpa using h0
        clear h0
        go_wp2
        go_round
        case rel => exact ⟨k + 1, by omega, by go_num⟩
        case measure => simp [intOf]; omega
    · obtain rfl : k = n := by omega
      go_wp2
      go_ret
      exact ⟨.no rfl, rfl⟩

theorem copyInts_some (p : Addr) (cap n : Nat) (xs : List Int) (w : World) (hl : n ≤ 1048576) (hn : xs.length = n) (hr : Reads (Value.int .i64) w (some p) xs) :
    Calls Try.prog 10 #[.slice (some p) n cap] w fun e w' => e = .returned (.slice (some ⟨w.heap.size, 0, none⟩) n n) ∧ Own (Value.int .i64) 3 w' w.heap.size n xs ∧ Below w.heap.size w w' ∧ w'.heap.size = w.heap.size + 1 := by
  have hmk := run_make_row' (P := Try.prog) 22 3 (.int .i64 0) 8 Try.underlying22 info3 rfl .i64 .i64 n (by omega) (by omega)
  have hnil := eq_nil_some Try.underlying22 p n cap
  have HN : Hid (xs.length = n) := hn
  clear hn
  go_enter Try.func10, Try.ntmps10
  go_wp2
  clear hmk hnil
  go_loopw [4] (fun i wr => ∃ k : Nat, k ≤ n ∧ i = .int .i64 k ∧ Own (Value.int .i64) 3 wr w.heap.size n (xs.take k) ∧ Below w.heap.size w wr ∧ wr.heap.size = w.heap.size + 1) (fun i _ => n - (intOf i).toNat)
  case atStart => exact ⟨0, Nat.zero_le _, rfl, Own.made_none _ _ _ _, (Below.refl _ _).alloc (Nat.le_refl _) _, by simp⟩
  case round =>
    obtain ⟨k, hk, rfl, hown, hb, hsz⟩ := hrel
    by_cases hlt : k < n
    · have hkx : k < xs.length := by have := HN.out; omega
      obtain ⟨b, o, hp, hc⟩ := hr k hkx
      cases hp
      have hbl : b < w.heap.size := lt_of_cell hc
      have hc' : wr.cell? ⟨b, o + k, none⟩ = some (Value.int .i64 xs[k]) := (hb.cell hbl).trans hc
      obtain ⟨v0, hv0⟩ := hown.there hlt
      have hfz := hown.frozen k
      clear hc
      go_wp2
      have hn := HN.out
      have hpush := hown.push (by rw [List.length_take]; omega) xs[k]
      have e1 : (xs.take k).length = k := by rw [List.length_take]; omega
      rw [e1, ← List.take_succ_eq_append_getElem (by omega)] at hpush
      go_roundw
      case rel => exact ⟨k + 1, by omega, by go_num, hpush, hb.setCell (by exact Nat.le_refl _) _, by simpa using hsz⟩
      case measure => simp [intOf]; omega
    · obtain rfl : k = n := by omega
      go_wp2
      go_ret
      have hn := HN.out
      exact ⟨rfl, by rw [List.take_of_length_le (by omega)] at hown; exact hown, hb, hsz⟩
theorem copyInts_none (n cap : Nat) (w : World) : Calls Try.prog 10 #[.slice none n cap] w fun e w' => e = .returned (.slice none 0 0) ∧ w' = w := by
  have hnil := eq_nil_none Try.underlying22 n cap
  go_enter Try.func10, Try.ntmps10
  go_wp2
  go_ret
  exact ⟨rfl, rfl⟩

theorem copyU8_some (p : Addr) (cap n : Nat) (xs : List Int) (w : World) (hl : n ≤ 1048576) (hn : xs.length = n) (hr : Reads (Value.int .u8) w (some p) xs) :
    Calls Try.prog 11 #[.slice (some p) n cap] w fun e w' => e = .returned (.slice (some ⟨w.heap.size, 0, none⟩) n n) ∧ Own (Value.int .u8) 5 w' w.heap.size n xs ∧ Below w.heap.size w w' ∧ w'.heap.size = w.heap.size + 1 := by
  have hmk := run_make_row' (P := Try.prog) 23 5 (.int .u8 0) 1 Try.underlying23 info5 rfl .i64 .i64 n (by omega) (by omega)
  have hnil := eq_nil_some Try.underlying23 p n cap
  have HN : Hid (xs.length = n) := hn
  clear hn
  go_enter Try.func11, Try.ntmps11
  go_wp2
  clear hmk hnil
  go_loopw [4] (fun i wr => ∃ k : Nat, k ≤ n ∧ i = .int .i64 k ∧ Own (Value.int .u8) 5 wr w.heap.size n (xs.take k) ∧ Below w.heap.size w wr ∧ wr.heap.size = w.heap.size + 1) (fun i _ => n - (intOf i).toNat)
  case atStart => exact ⟨0, Nat.zero_le _, rfl, Own.made_none _ _ _ _, (Below.refl _ _).alloc (Nat.le_refl _) _, by simp⟩
  case round =>
    obtain ⟨k, hk, rfl, hown, hb, hsz⟩ := hrel
    by_cases hlt : k < n
    · have hkx : k < xs.length := by have := HN.out; omega
      obtain ⟨b, o, hp, hc⟩ := hr k hkx
      cases hp
      have hbl : b < w.heap.size := lt_of_cell hc
      have hc' : wr.cell? ⟨b, o + k, none⟩ = some (Value.int .u8 xs[k]) := (hb.cell hbl).trans hc
      obtain ⟨v0, hv0⟩ := hown.there hlt
      have hfz := hown.frozen k
      clear hc
      go_wp2
      have hn := HN.out
      have hpush := hown.push (by rw [List.length_take]; omega) xs[k]
      have e1 : (xs.take k).length = k := by rw [List.length_take]; omega
      rw [e1, ← List.take_succ_eq_append_getElem (by omega)] at hpush
      go_roundw
      case rel => exact ⟨k + 1, by omega, by go_num, hpush, hb.setCell (by exact Nat.le_refl _) _, by simpa using hsz⟩
      case measure => simp [intOf]; omega
    · obtain rfl : k = n := by omega
      go_wp2
      go_ret
      have hn := HN.out
      exact ⟨rfl, by rw [List.take_of_length_le (by omega)] at hown; exact hown, hb, hsz⟩
theorem copyU8_none (n cap : Nat) (w : World) : Calls Try.prog 11 #[.slice none n cap] w fun e w' => e = .returned (.slice none 0 0) ∧ w' = w := by
  have hnil := eq_nil_none Try.underlying23 n cap
  go_enter Try.func11, Try.ntmps11
  go_wp2
  go_ret
  exact ⟨rfl, rfl⟩
end Go.Proofs.Qxb6604780a
