/-
  The domain of the laws on list.
-/
import Derived.Test.Qxb6604780aSmall
namespace Go.Proofs.Qxb6604780a
set_option linter.unusedSimpArgs false
set_option linter.unusedVariables false
open Go.RowKit

/-- What zzListDomain asks. -/
structure ListIs (dc pts pks : List Int) (m : Int) (a4 : Option Addr) (n4 : Nat) (walk pick n count : Int) : Prop where
  dcs : AllIn dc m
  ptsIn : AllIn pts dc.length
  pksIn : AllIn pks dc.length
  k0 : 0 ≤ walk
  k1 : walk < pts.length
  pk : 0 < pks.length → 0 ≤ pick ∧ pick < pks.length
  ofl : a4 ≠ none → n4 = dc.length

set_option maxHeartbeats 2000000 in
theorem listDomain_any (a0 a2 a3 a4 : Option Addr) (n0 c0 n2 c2 n3 c3 n4 c4 : Nat) (dc pts pks : List Int) (m walk pick n count : Int) (w : World) (hl0 : n0 ≤ 32768) (hl2 : n2 ≤ 32768) (hl3 : n3 ≤ 32768) (hl4 : n4 ≤ 32768)
    (hn0 : dc.length = n0) (hn2 : pts.length = n2) (hn3 : pks.length = n3) (hr0 : Reads (Value.int .i64) w a0 dc) (hr2 : Reads (Value.int .i64) w a2 pts) (hr3 : Reads (Value.int .i64) w a3 pks) :
    Calls Try.prog 9 #[.slice a0 n0 c0, .int .i64 m, .slice a2 n2 c2, .slice a3 n3 c3, .slice a4 n4 c4, .int .i64 walk, .int .i64 pick, .int .i64 n, .int .i64 count] w fun e w' => SaysIf (ListIs dc pts pks m a4 n4 walk pick n count) e ∧ w' = w := by
  have H0 := hide hn0
  have H2 := hide hn2
  have H3 := hide hn3
  have C26 := hide (in26_any a0 c0 n0 dc m w (by omega) hn0 hr0)
  have C2 := hide (in29_any a2 c2 n2 pts n0 w (by omega) hn2 hr2)
  have C3 := hide (in29_any a3 c3 n3 pks n0 w (by omega) hn3 hr3)
  clear hn0 hn2 hn3 hr0 hr2 hr3
  by_cases hz : n2 = 0
  · have hz' : ((n2 : Int) == 0) = true := by simp [hz]
    clear C2 C3
    go_enter Try.func9, Try.ntmps9
    go_wp2_with fail
    refine C26.out.mono ?_
    rintro e w' ⟨⟨b, rfl, hb⟩, hw'⟩
    obtain rfl := hw'.symm
    clear hb
    cases b
    · go_wp2
      go_ret
      exact ⟨.no rfl, rfl⟩
    · go_wp2
      go_ret
      exact ⟨.no rfl, rfl⟩
  have hz' : ((n2 : Int) == 0) = false := by simpa using hz
  go_enter Try.func9, Try.ntmps9
  go_wp2_with fail
  refine C26.out.mono ?_
  rintro e w' ⟨⟨b, rfl, hb⟩, hw'⟩
  obtain rfl := hw'.symm
  cases b
  · clear hb
    go_wp2
    go_ret
    exact ⟨.no rfl, rfl⟩
  have B1 := hide (hb rfl)
  clear hb
  go_wp2_with fail
  refine C2.out.mono ?_
  rintro e w' ⟨⟨b, rfl, hb⟩, hw'⟩
  obtain rfl := hw'.symm
  cases b
  · clear hb
    go_wp2
    go_ret
    exact ⟨.no rfl, rfl⟩
  have B2 := hide (hb rfl)
  clear hb
  go_wp2_with fail
  refine C3.out.mono ?_
  rintro e w' ⟨⟨b, rfl, hb⟩, hw'⟩
  obtain rfl := hw'.symm
  cases b
  · clear hb
    go_wp2
    go_ret
    exact ⟨.no rfl, rfl⟩
  have B3 := hide (hb rfl)
  clear hb C26 C2 C3
  by_cases w1 : walk < 0
  · have d1 : decide (walk < 0) = true := by simpa using w1
    go_wp2
    go_ret
    exact ⟨.no rfl, rfl⟩
  have d1 : decide (walk < 0) = false := by simpa using w1
  by_cases w2 : (n2 : Int) ≤ walk
  · have d2 : decide ((n2 : Int) ≤ walk) = true := by simpa using w2
    go_wp2
    go_ret
    exact ⟨.no rfl, rfl⟩
  have d2 : decide ((n2 : Int) ≤ walk) = false := by simpa using w2
  have fin : ∀ (h4 : a4 ≠ none → n4 = n0) (hp : 0 < n3 → 0 ≤ pick ∧ pick < (n3 : Int)), ListIs dc pts pks m a4 n4 walk pick n count := fun h4 hp =>
    ⟨B1.out, by rw [H0.out]; exact B2.out, by rw [H0.out]; exact B3.out, by omega, by rw [H2.out]; omega, by rw [H3.out]; exact hp, by rw [H0.out]; exact h4⟩
  have FIN := hide fin
  clear fin
  cases ha : a4 with
  | none =>
    subst ha
    have hcmp : ∀ W, (binOp .neq 23 (.slice none n4 c4) (.slice none 0 0)).run Try.prog W = .ok (.bool false) W := fun W => ne_nil_none Try.underlying23 n4 c4 W
    go_wp2
    all_goals first
      | (go_ret; exact ⟨.no rfl, rfl⟩)
      | (go_ret; exact ⟨.yes rfl (FIN.out (fun h => absurd rfl h) (by omega)), rfl⟩)
  | some p =>
    subst ha
    have hcmp : ∀ W, (binOp .neq 23 (.slice (some p) n4 c4) (.slice none 0 0)).run Try.prog W = .ok (.bool true) W := fun W => ne_nil_some Try.underlying23 p n4 c4 W
    by_cases h4 : n4 = n0
    · have d4 : ((n4 : Int) == (n0 : Int)) = true := by simp [h4]
      have d4' : (!((n4 : Int) == (n0 : Int))) = false := by simp [h4]
      have H4 := hide h4
      clear h4
      go_wp2
      all_goals first
        | (go_ret; exact ⟨.no rfl, rfl⟩)
        | (go_ret; exact ⟨.yes rfl (FIN.out (fun _ => H4.out) (by omega)), rfl⟩)
    · have d4 : ((n4 : Int) == (n0 : Int)) = false := by simp; omega
      have d4' : (!((n4 : Int) == (n0 : Int))) = true := by simp; omega
      go_wp2
      all_goals (go_ret; exact ⟨.no rfl, rfl⟩)
end Go.Proofs.Qxb6604780a
