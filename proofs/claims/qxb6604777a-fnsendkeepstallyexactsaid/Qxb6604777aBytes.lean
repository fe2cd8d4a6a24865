/-
  The functions that count bytes: they return, and leave all as it was. What they count is not asked.
-/
import Derived.Test.Qxb6604777aBase
namespace Go.Proofs.Qxb6604777a
set_option linter.unusedSimpArgs false
set_option linter.unusedVariables false
open Go.RowKit

/-- It returned a bool. -/
def SomeBool (e : Ending) : Prop := ∃ b : Bool, e = .returned (.bool b)

theorem stringsBytes_any (a : Option Addr) (cap n : Nat) (xs : List ByteArray) (w : World) (hl : n ≤ 1048576) (hn : xs.length = n) (hr : Reads Value.string w a xs) :
    Calls Try.prog 16 #[.slice a n cap] w fun e w' => (∃ z : Int, e = .returned (.int .i64 z) ∧ 0 ≤ z ∧ z ≤ 1048577) ∧ w' = w := by
  have HN : Hid (xs.length = n) := hn
  clear hn
  by_cases hbig : 65536 < n
  · go_enter Try.func16, Try.ntmps16
    go_wp2
    go_ret
    exact ⟨⟨_, rfl, by omega, by omega⟩, rfl⟩
  go_enter Try.func16, Try.ntmps16
  go_wp2
  go_loop [3, 4] (fun t i => ∃ k : Nat, k ≤ n ∧ i = .int .i64 k ∧ ∃ z : Int, t = .int .i64 z ∧ 0 ≤ z ∧ z ≤ 1048576) (fun _ i => n - (intOf i).toNat)
  case atStart => exact ⟨0, Nat.zero_le _, rfl, _, rfl, by omega, by omega⟩
  case round =>
    obtain ⟨k, hk, rfl, z, rfl, h0, h1⟩ := hrel
    by_cases hlt : k < n
    · have hkx : k < xs.length := by have := HN.out; omega
      obtain ⟨b, o, hp, hc⟩ := hr k hkx
      cases hp
      clear hr
      go_wp2
      · go_ret
        exact ⟨⟨_, rfl, by omega, by omega⟩, rfl⟩
      · go_ret
        exact ⟨⟨_, rfl, by omega, by omega⟩, rfl⟩
      · go_round
        case rel => exact ⟨k + 1, by omega, by go_num, _, rfl, by omega, by omega⟩
        case measure => simp [intOf]; omega
    · obtain rfl : k = n := by omega
      clear hlt hk hr
      go_wp2
      go_ret
      exact ⟨⟨_, rfl, by omega, by omega⟩, rfl⟩

theorem tallyBytes_any (a0 a1 a2 a3 : Option Addr) (n0 n1 n2 n3 c0 c1 c2 c3 : Nat) (x1 x2 : List ByteArray) (w : World) (hl0 : n0 ≤ 65536) (hl1 : n1 ≤ 65536) (hl2 : n2 ≤ 65536) (hl3 : n3 ≤ 65536) (hn1 : x1.length = n1) (hn2 : x2.length = n2) (hr1 : Reads Value.string w a1 x1) (hr2 : Reads Value.string w a2 x2) :
    Calls Try.prog 8 #[.slice a0 n0 c0, .slice a1 n1 c1, .slice a2 n2 c2, .slice a3 n3 c3] w fun e w' => (∃ z : Int, e = .returned (.int .i64 z) ∧ 0 ≤ z ∧ z ≤ 2400000) ∧ w' = w := by
  have H1 : Hid (∀ w, Reads Value.string w a1 x1 → Calls Try.prog 16 #[.slice a1 n1 c1] w fun e w' => (∃ z : Int, e = .returned (.int .i64 z) ∧ 0 ≤ z ∧ z ≤ 1048577) ∧ w' = w) := fun w h => stringsBytes_any a1 c1 n1 x1 w (by omega) hn1 h
  have H2 : Hid (∀ w, Reads Value.string w a2 x2 → Calls Try.prog 16 #[.slice a2 n2 c2] w fun e w' => (∃ z : Int, e = .returned (.int .i64 z) ∧ 0 ≤ z ∧ z ≤ 1048577) ∧ w' = w) := fun w h => stringsBytes_any a2 c2 n2 x2 w (by omega) hn2 h
  clear hn1 hn2
  go_enter Try.func8, Try.ntmps8
  go_wp2_with fail
  refine (H1.out _ hr1).mono ?_
  rintro e w1 ⟨⟨z1, rfl, hz1, hz1'⟩, rfl⟩
  go_wp2_with fail
  refine (H2.out _ hr2).mono ?_
  rintro e w2 ⟨⟨z2, rfl, hz2, hz2'⟩, rfl⟩
  go_wp2
  go_ret
  exact ⟨⟨_, rfl, by omega, by omega⟩, rfl⟩

set_option maxHeartbeats 1000000 in
theorem zzBytesClaim_any (a0 a1 a2 a3 : Option Addr) (n0 n1 n2 n3 c0 c1 c2 c3 : Nat) (to about : Int) (v : ByteArray) (x1 x2 : List ByteArray) (w : World) (hn1 : x1.length = n1) (hn2 : x2.length = n2) (hr1 : Reads Value.string w a1 x1) (hr2 : Reads Value.string w a2 x2) :
    Calls Try.prog 22 #[.slice a0 n0 c0, .slice a1 n1 c1, .slice a2 n2 c2, .slice a3 n3 c3, .int .i64 to, .int .i64 about, .string v] w fun e w' => SomeBool e ∧ w' = w := by
  have HN1 : Hid (x1.length = n1) := hn1
  have HN2 : Hid (x2.length = n2) := hn2
  clear hn1 hn2
  go_enter Try.func22, Try.ntmps22
  go_wp2
  all_goals first | (go_ret; exact ⟨⟨_, rfl⟩, rfl⟩) | skip
  go_loop [15, 16] (fun t i => ∃ k : Nat, k ≤ n1 ∧ i = .int .i64 k ∧ ∃ z : Int, t = .int .i64 z ∧ 0 ≤ z ∧ z ≤ 1048576) (fun _ i => n1 - (intOf i).toNat)
  case atStart => exact ⟨0, Nat.zero_le _, rfl, _, rfl, by omega, by omega⟩
  case round =>
    obtain ⟨k, hk, rfl, z, rfl, h0, h1⟩ := hrel
    by_cases hlt : k < n1
    · have hkx : k < x1.length := by have := HN1.out; omega
      obtain ⟨b, o, hp, hc⟩ := hr1 k hkx
      cases hp
      clear hr1
      go_wp2
      · go_ret
        exact ⟨⟨_, rfl⟩, rfl⟩
      · go_ret
        exact ⟨⟨_, rfl⟩, rfl⟩
      · go_round
        case rel => exact ⟨k + 1, by omega, by go_num, _, rfl, by omega, by omega⟩
        case measure => simp [intOf]; omega
    · obtain rfl : k = n1 := by omega
      clear hlt hk hr1
      go_wp2
      all_goals first | (go_ret; exact ⟨⟨_, rfl⟩, rfl⟩) | skip
      go_loop [15, 17] (fun t i => ∃ k : Nat, k ≤ n2 ∧ i = .int .i64 k ∧ ∃ z : Int, t = .int .i64 z ∧ 0 ≤ z ∧ z ≤ 1048576) (fun _ i => n2 - (intOf i).toNat)
      case atStart => exact ⟨0, Nat.zero_le _, rfl, _, rfl, by omega, by omega⟩
      case round =>
        obtain ⟨k, hk, rfl, z, rfl, h0, h1⟩ := hrel
        by_cases hlt : k < n2
        · have hkx : k < x2.length := by have := HN2.out; omega
          obtain ⟨b, o, hp, hc⟩ := hr2 k hkx
          cases hp
          clear hr2
          go_wp2
          · go_ret
            exact ⟨⟨_, rfl⟩, rfl⟩
          · go_ret
            exact ⟨⟨_, rfl⟩, rfl⟩
          · go_round
            case rel => exact ⟨k + 1, by omega, by go_num, _, rfl, by omega, by omega⟩
            case measure => simp [intOf]; omega
        · obtain rfl : k = n2 := by omega
          clear hlt hk hr2
          go_wp2
          all_goals (go_ret; exact ⟨⟨_, rfl⟩, rfl⟩)

set_option maxHeartbeats 1000000 in
theorem zzBytesSend_any (a0 a1 a2 : Option Addr) (n0 n1 n2 c0 c1 c2 : Nat) (src to : Int) (v : ByteArray) (x1 x2 : List ByteArray) (w : World) (hn1 : x1.length = n1) (hn2 : x2.length = n2) (hr1 : Reads Value.string w a1 x1) (hr2 : Reads Value.string w a2 x2) :
    Calls Try.prog 7 #[.slice a0 n0 c0, .slice a1 n1 c1, .slice a2 n2 c2, .int .i64 src, .int .i64 to, .string v] w fun e w' => SomeBool e ∧ w' = w := by
  have HN1 : Hid (x1.length = n1) := hn1
  have HN2 : Hid (x2.length = n2) := hn2
  clear hn1 hn2
  go_enter Try.func7, Try.ntmps7
  go_wp2
  all_goals first | (go_ret; exact ⟨⟨_, rfl⟩, rfl⟩) | skip
  go_loop [13, 14] (fun t i => ∃ k : Nat, k ≤ n1 ∧ i = .int .i64 k ∧ ∃ z : Int, t = .int .i64 z ∧ 0 ≤ z ∧ z ≤ 1048576) (fun _ i => n1 - (intOf i).toNat)
  case atStart => exact ⟨0, Nat.zero_le _, rfl, _, rfl, by omega, by omega⟩
  case round =>
    obtain ⟨k, hk, rfl, z, rfl, h0, h1⟩ := hrel
    by_cases hlt : k < n1
    · have hkx : k < x1.length := by have := HN1.out; omega
      obtain ⟨b, o, hp, hc⟩ := hr1 k hkx
      cases hp
      clear hr1
      go_wp2
      · go_ret
        exact ⟨⟨_, rfl⟩, rfl⟩
      · go_ret
        exact ⟨⟨_, rfl⟩, rfl⟩
      · go_round
        case rel => exact ⟨k + 1, by omega, by go_num, _, rfl, by omega, by omega⟩
        case measure => simp [intOf]; omega
    · obtain rfl : k = n1 := by omega
      clear hlt hk hr1
      go_wp2
      all_goals first | (go_ret; exact ⟨⟨_, rfl⟩, rfl⟩) | skip
      go_loop [13, 15] (fun t i => ∃ k : Nat, k ≤ n2 ∧ i = .int .i64 k ∧ ∃ z : Int, t = .int .i64 z ∧ 0 ≤ z ∧ z ≤ 1048576) (fun _ i => n2 - (intOf i).toNat)
      case atStart => exact ⟨0, Nat.zero_le _, rfl, _, rfl, by omega, by omega⟩
      case round =>
        obtain ⟨k, hk, rfl, z, rfl, h0, h1⟩ := hrel
        by_cases hlt : k < n2
        · have hkx : k < x2.length := by have := HN2.out; omega
          obtain ⟨b, o, hp, hc⟩ := hr2 k hkx
          cases hp
          clear hr2
          go_wp2
          · go_ret
            exact ⟨⟨_, rfl⟩, rfl⟩
          · go_ret
            exact ⟨⟨_, rfl⟩, rfl⟩
          · go_round
            case rel => exact ⟨k + 1, by omega, by go_num, _, rfl, by omega, by omega⟩
            case measure => simp [intOf]; omega
        · obtain rfl : k = n2 := by omega
          clear hlt hk hr2
          go_wp2
          all_goals (go_ret; exact ⟨⟨_, rfl⟩, rfl⟩)
end Go.Proofs.Qxb6604777a
