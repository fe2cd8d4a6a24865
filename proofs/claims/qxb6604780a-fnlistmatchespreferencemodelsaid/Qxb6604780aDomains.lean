/-
  The bounds and the domains of the laws.
-/
import Derived.Test.Qxb6604780aSmall
namespace Go.Proofs.Qxb6604780a
set_option linter.unusedSimpArgs false
set_option linter.unusedVariables false
open Go.RowKit

theorem bytes24_any (a0 a2 a3 a8 a9 : Option Addr) (n0 c0 n2 c2 n3 c3 n8 c8 n9 c9 : Nat) (z1 z4 z5 z6 z7 z10 : Int) (w : World) :
    Calls Try.prog 24 #[.slice a0 n0 c0, .int .i64 z1, .slice a2 n2 c2, .slice a3 n3 c3, .int .i64 z4, .int .i64 z5, .int .i64 z6, .int .i64 z7, .slice a8 n8 c8, .slice a9 n9 c9, .int .i64 z10] w fun e w' => SomeBool e ∧ w' = w := by
  go_enter Try.func24, Try.ntmps24
  go_wp2
  all_goals (go_ret; exact ⟨⟨_, rfl⟩, rfl⟩)
theorem bytes19_any (a0 a2 a3 a8 : Option Addr) (n0 c0 n2 c2 n3 c3 n8 c8 : Nat) (z1 z4 z5 z6 z7 z9 : Int) (w : World) :
    Calls Try.prog 19 #[.slice a0 n0 c0, .int .i64 z1, .slice a2 n2 c2, .slice a3 n3 c3, .int .i64 z4, .int .i64 z5, .int .i64 z6, .int .i64 z7, .slice a8 n8 c8, .int .i64 z9] w fun e w' => SomeBool e ∧ w' = w := by
  go_enter Try.func19, Try.ntmps19
  go_wp2
  all_goals (go_ret; exact ⟨⟨_, rfl⟩, rfl⟩)
theorem bytes18_any (a0 a2 a3 a5 : Option Addr) (n0 c0 n2 c2 n3 c3 n5 c5 : Nat) (b4 : Bool) (z1 z6 z7 z8 z9 z10 z11 : Int) (w : World) :
    Calls Try.prog 18 #[.slice a0 n0 c0, .int .i64 z1, .slice a2 n2 c2, .slice a3 n3 c3, .bool b4, .slice a5 n5 c5, .int .i64 z6, .int .i64 z7, .int .i64 z8, .int .i64 z9, .int .i64 z10, .int .i64 z11] w fun e w' => SomeBool e ∧ w' = w := by
  go_enter Try.func18, Try.ntmps18
  go_wp2
  all_goals (go_ret; exact ⟨⟨_, rfl⟩, rfl⟩)
theorem bytes8_any (a0 a2 a3 a5 : Option Addr) (n0 c0 n2 c2 n3 c3 n5 c5 : Nat) (b4 : Bool) (z1 z6 z7 z8 z9 z10 : Int) (w : World) :
    Calls Try.prog 8 #[.slice a0 n0 c0, .int .i64 z1, .slice a2 n2 c2, .slice a3 n3 c3, .bool b4, .slice a5 n5 c5, .int .i64 z6, .int .i64 z7, .int .i64 z8, .int .i64 z9, .int .i64 z10] w fun e w' => SomeBool e ∧ w' = w := by
  go_enter Try.func8, Try.ntmps8
  go_wp2
  all_goals (go_ret; exact ⟨⟨_, rfl⟩, rfl⟩)

/-- What zzReachDomain asks. -/
structure ReachIs (dc pts pks : List Int) (m n holder walk pick step : Int) : Prop where
  dcs : AllIn dc m
  ptsIn : AllIn pts dc.length
  pksIn : AllIn pks dc.length
  n1 : 1 ≤ n
  h0 : 0 ≤ holder
  h1 : holder < dc.length
  picks : step = 2 → 0 ≤ pick ∧ pick < pks.length ∧ holder ∈ pks
  walks : step ≠ 2 → 0 ≤ walk ∧ walk < pts.length ∧ holder ∈ pts

set_option maxHeartbeats 2000000 in
theorem reachDomain_any (a0 a2 a3 : Option Addr) (n0 c0 n2 c2 n3 c3 : Nat) (dc pts pks : List Int) (m n holder walk pick step : Int) (w : World) (hl0 : n0 ≤ 32768) (hl2 : n2 ≤ 32768) (hl3 : n3 ≤ 32768)
    (hn0 : dc.length = n0) (hn2 : pts.length = n2) (hn3 : pks.length = n3) (hr0 : Reads (Value.int .i64) w a0 dc) (hr2 : Reads (Value.int .i64) w a2 pts) (hr3 : Reads (Value.int .i64) w a3 pks) :
    Calls Try.prog 20 #[.slice a0 n0 c0, .int .i64 m, .slice a2 n2 c2, .slice a3 n3 c3, .int .i64 n, .int .i64 holder, .int .i64 walk, .int .i64 pick, .int .i64 step] w fun e w' => SaysIf (ReachIs dc pts pks m n holder walk pick step) e ∧ w' = w := by
  have H0 := hide hn0
  have H2 := hide hn2
  have H3 := hide hn3
  have C26 := hide (in26_any a0 c0 n0 dc m w (by omega) hn0 hr0)
  have C2 := hide (in29_any a2 c2 n2 pts n0 w (by omega) hn2 hr2)
  have C3 := hide (in29_any a3 c3 n3 pks n0 w (by omega) hn3 hr3)
  have D2 := hide (has_any a2 c2 n2 pts holder w (by omega) hn2 hr2)
  have D3 := hide (has_any a3 c3 n3 pks holder w (by omega) hn3 hr3)
  clear hn0 hn2 hn3 hr0 hr2 hr3
  go_enter Try.func20, Try.ntmps20
  go_wp2_with fail
  refine C26.out.mono ?_
  rintro e w' ⟨⟨b, rfl, hb⟩, hw'⟩
  obtain rfl := hw'.symm
  cases b
  · clear hb
    go_wp2
    go_ret
    exact ⟨.no rfl, rfl⟩
  have B1 := hide (hb rfl)
  clear hb
  go_wp2_with fail
  refine C2.out.mono ?_
  rintro e w' ⟨⟨b, rfl, hb⟩, hw'⟩
  obtain rfl := hw'.symm
  cases b
  · clear hb
    go_wp2
    go_ret
    exact ⟨.no rfl, rfl⟩
  have B2 := hide (hb rfl)
  clear hb
  go_wp2_with fail
  refine C3.out.mono ?_
  rintro e w' ⟨⟨b, rfl, hb⟩, hw'⟩
  obtain rfl := hw'.symm
  cases b
  · clear hb
    go_wp2
    go_ret
    exact ⟨.no rfl, rfl⟩
  have B3 := hide (hb rfl)
  clear hb
  by_cases hin : 1 ≤ n ∧ 0 ≤ holder ∧ holder < n0
  case neg =>
    clear D2 D3
    go_wp2_with fail
    all_goals first | (go_ret; exact ⟨.no rfl, rfl⟩) | (exfalso; simp_all; omega)
  obtain ⟨hi1, hi2, hi3⟩ := hin
  have d1 : decide (n < 1) = false := by simp; omega
  have d2 : decide (holder < 0) = false := by simp; omega
  have d3 : decide ((n0 : Int) ≤ holder) = false := by simp; omega
  have hR : ∀ {P Q : Prop}, (step = 2 → P) → (step ≠ 2 → Q) → True := fun _ _ => trivial
  by_cases hs : step = 2
  · have hs' : (step == 2) = true := by simpa using hs
    by_cases hp : 0 ≤ pick ∧ pick < n3
    · obtain ⟨hp1, hp2⟩ := hp
      have e1 : decide (0 ≤ pick) = true := by simpa using hp1
      have e2 : decide (pick < (n3 : Int)) = true := by simpa using hp2
      have HS := hide hs
      clear hs hR
      go_wp2_with fail
      refine D3.out.mono ?_
      rintro e w' ⟨⟨b, rfl, hb⟩, hw'⟩
      obtain rfl := hw'.symm
      have HB := hide hb
      clear hb
      go_wp2
      go_ret
      refine ⟨⟨b, rfl, fun h => ⟨B1.out, ?_, ?_, hi1, hi2, ?_, fun _ => ⟨hp1, ?_, HB.out h⟩, fun hne => absurd HS.out hne⟩⟩, rfl⟩
      · rw [H0.out]; exact B2.out
      · rw [H0.out]; exact B3.out
      · rw [H0.out]; exact hi3
      · rw [H3.out]; exact hp2
    · clear D2 D3 hR hs
      by_cases hp1 : 0 ≤ pick
      · have e1 : decide (0 ≤ pick) = true := by simpa using hp1
        have e2 : decide (pick < (n3 : Int)) = false := by simp; omega
        go_wp2_with fail
        go_ret
        exact ⟨.no rfl, rfl⟩
      · have e1 : decide (0 ≤ pick) = false := by simpa using hp1
        go_wp2_with fail
        go_ret
        exact ⟨.no rfl, rfl⟩
  · have hs' : (step == 2) = false := by simpa using hs
    by_cases hp : 0 ≤ walk ∧ walk < n2
    · obtain ⟨hp1, hp2⟩ := hp
      have e1 : decide (0 ≤ walk) = true := by simpa using hp1
      have e2 : decide (walk < (n2 : Int)) = true := by simpa using hp2
      have HS := hide hs
      clear hs hR
      go_wp2_with fail
      refine D2.out.mono ?_
      rintro e w' ⟨⟨b, rfl, hb⟩, hw'⟩
      obtain rfl := hw'.symm
      have HB := hide hb
      clear hb
      go_wp2
      go_ret
      refine ⟨⟨b, rfl, fun h => ⟨B1.out, ?_, ?_, hi1, hi2, ?_, fun he => absurd he HS.out, fun _ => ⟨hp1, ?_, HB.out h⟩⟩⟩, rfl⟩
      · rw [H0.out]; exact B2.out
      · rw [H0.out]; exact B3.out
      · rw [H0.out]; exact hi3
      · rw [H2.out]; exact hp2
    · clear D2 D3 hR hs
      by_cases hp1 : 0 ≤ walk
      · have e1 : decide (0 ≤ walk) = true := by simpa using hp1
        have e2 : decide (walk < (n2 : Int)) = false := by simp; omega
        go_wp2_with fail
        go_ret
        exact ⟨.no rfl, rfl⟩
      · have e1 : decide (0 ≤ walk) = false := by simpa using hp1
        go_wp2_with fail
        go_ret
        exact ⟨.no rfl, rfl⟩
end Go.Proofs.Qxb6604780a
