/-
  The functions that compare two slices: sameInts, sameStrings, sameBools: of two slices that read as one list they say true.
-/
import Derived.Test.Qxb6604777aBase
import Derived.Deep.QuietTactic
import Derived.BigQuiet
namespace Go.Proofs.Qxb6604777a
set_option linter.unusedSimpArgs false
set_option linter.unusedVariables false
open Go.RowKit

/-- Function 30: two slices that read as one list are the same. -/
theorem sameInts_true (a a' : Option Addr) (cap cap' n : Nat) (xs : List Int) (w : World) (hl : n ≤ 1048576) (hn : xs.length = n) (hr : Reads (Value.int .i64) w a xs) (hr' : Reads (Value.int .i64) w a' xs) :
    Calls Try.prog 30 #[.slice a n cap, .slice a' n cap'] w fun e w' => e = .returned (.bool true) ∧ ∃ q, w' = w.drewN q := by
  have HN : Hid (xs.length = n) := hn
  clear hn
  go_enter Try.func30, Try.ntmps30
  go_wp2
  go_loopw [5] (fun i wr => ∃ k : Nat, k ≤ n ∧ i = .int .i64 k ∧ ∃ q, wr = w.drewN q) (fun i _ => n - (intOf i).toNat)
  case atStart => exact ⟨0, Nat.zero_le _, rfl, 0, rfl⟩
  case round =>
    obtain ⟨k, hk, rfl, q, rfl⟩ := hrel
    by_cases hlt : k < n
    · have hkx : k < xs.length := by have := HN.out; omega
      obtain ⟨b, o, hp, hc⟩ := hr k hkx
      obtain ⟨b', o', hp', hc'⟩ := hr' k hkx
      cases hp
      cases hp'
      have hltI : (k : Int) < (n : Int) := by omega
      go_wp2
      go_quiet (fail)
      go_wp2
      go_roundw
      case rel => exact ⟨k + 1, by omega, by go_num, _, rfl⟩
      case measure => simp [intOf]; omega
    · go_wp2
      go_ret
      exact ⟨rfl, _, rfl⟩

/-- Function 31: two slices that read as one list are the same. -/
theorem sameStrings_true (a a' : Option Addr) (cap cap' n : Nat) (xs : List ByteArray) (w : World) (hl : n ≤ 1048576) (hn : xs.length = n) (hr : Reads (Value.string) w a xs) (hr' : Reads (Value.string) w a' xs) :
    Calls Try.prog 31 #[.slice a n cap, .slice a' n cap'] w fun e w' => e = .returned (.bool true) ∧ ∃ q, w' = w.drewN q := by
  have HN : Hid (xs.length = n) := hn
  clear hn
  go_enter Try.func31, Try.ntmps31
  go_wp2
  go_loopw [5] (fun i wr => ∃ k : Nat, k ≤ n ∧ i = .int .i64 k ∧ ∃ q, wr = w.drewN q) (fun i _ => n - (intOf i).toNat)
  case atStart => exact ⟨0, Nat.zero_le _, rfl, 0, rfl⟩
  case round =>
    obtain ⟨k, hk, rfl, q, rfl⟩ := hrel
    by_cases hlt : k < n
    · have hkx : k < xs.length := by have := HN.out; omega
      obtain ⟨b, o, hp, hc⟩ := hr k hkx
      obtain ⟨b', o', hp', hc'⟩ := hr' k hkx
      cases hp
      cases hp'
      have hltI : (k : Int) < (n : Int) := by omega
      go_wp2
      go_quiet (fail)
      go_wp2
      go_roundw
      case rel => exact ⟨k + 1, by omega, by go_num, _, rfl⟩
      case measure => simp [intOf]; omega
    · go_wp2
      go_ret
      exact ⟨rfl, _, rfl⟩

/-- Function 32: two slices that read as one list are the same. -/
theorem sameBools_true (p p' : Addr) (cap cap' n : Nat) (xs : List Bool) (w : World) (hl : n ≤ 1048576) (hn : xs.length = n) (hr : Reads (Value.bool) w (some p) xs) (hr' : Reads (Value.bool) w (some p') xs) :
    Calls Try.prog 32 #[.slice (some p) n cap, .slice (some p') n cap'] w fun e w' => e = .returned (.bool true) ∧ ∃ q, w' = w.drewN q := by
  have hn1 := eq_nil_some Try.underlying22 p n cap
  have hn2 := eq_nil_some Try.underlying22 p' n cap'
  have HN : Hid (xs.length = n) := hn
  clear hn
  go_enter Try.func32, Try.ntmps32
  go_wp2
  clear hn1 hn2
  go_loopw [5] (fun i wr => ∃ k : Nat, k ≤ n ∧ i = .int .i64 k ∧ ∃ q, wr = w.drewN q) (fun i _ => n - (intOf i).toNat)
  case atStart => exact ⟨0, Nat.zero_le _, rfl, 0, rfl⟩
  case round =>
    obtain ⟨k, hk, rfl, q, rfl⟩ := hrel
    by_cases hlt : k < n
    · have hkx : k < xs.length := by have := HN.out; omega
      obtain ⟨b, o, hp, hc⟩ := hr k hkx
      obtain ⟨b', o', hp', hc'⟩ := hr' k hkx
      cases hp
      cases hp'
      have hltI : (k : Int) < (n : Int) := by omega
      go_wp2
      go_quiet (fail)
      go_wp2
      go_roundw
      case rel => exact ⟨k + 1, by omega, by go_num, _, rfl⟩
      case measure => simp [intOf]; omega
    · go_wp2
      go_ret
      exact ⟨rfl, _, rfl⟩

theorem sameBools_none (n cap n' cap' : Nat) (w : World) (hn : n = 0) (hn' : n' = 0) : Calls Try.prog 32 #[.slice none n cap, .slice none n' cap'] w fun e w' => e = .returned (.bool true) ∧ ∃ q, w' = w.drewN q := by
  subst hn hn'
  have h1 := eq_nil_none Try.underlying22 0 cap
  have h2 := eq_nil_none Try.underlying22 0 cap'
  go_enter Try.func32, Try.ntmps32
  go_wp2
  refine wp_loop_rounds 1 ?_
  rw [rounds_succ]
  go_wp2
  go_ret
  exact ⟨rfl, 0, rfl⟩
end Go.Proofs.Qxb6604777a
