/-
  The walk of sameTally: of two tallies whose fields read alike it says true.
-/
import Derived.Test.Qxb6604777aSames
import Derived.Test.Qxb6604777aPlain
import Derived.Deep.QuietTactic
import Derived.BigQuiet
namespace Go.Proofs.Qxb6604777a
set_option linter.unusedSimpArgs false
set_option linter.unusedVariables false
open Go.RowKit

theorem below_drewN {B : Nat} {a w : World} (h : Below B a w) (q : Nat) : Below B a (w.drewN q) := ⟨h.os, h.tape, h.output, h.size, h.block⟩

/-- The flags of two tallies: both nil, or both of one list. -/
def SameVoid (w : World) (a b : Option Addr) (n m : Nat) : Prop :=
  (a = none ∧ b = none ∧ n = 0 ∧ m = 0) ∨ ∃ p q vs, a = some p ∧ b = some q ∧ vs.length = n ∧ m = n ∧ n ≤ 65536 ∧ Reads Value.bool w (some p) vs ∧ Reads Value.bool w (some q) vs

set_option maxRecDepth 100000 in
set_option maxHeartbeats 4000000 in
theorem sameTally_any (a0 a1 a2 a3 a4 a5 a6 a7 a8 a9 b0 b1 b2 b3 b4 b5 b6 b7 b8 b9 : Option Addr) (n0 M K n2 n5 m5 : Nat) (k0 k1 k2 k3 k4 k5 k6 k7 k8 k9 j0 j1 j2 j3 j4 j5 j6 j7 j8 j9 : Nat)
    (x0 x1 x2 x6 x7 x9 : List Int) (x3 x4 rA rB : List ByteArray) (w : World) (l0 : n0 ≤ 65536) (lM : M ≤ 65536) (lK : K ≤ 65536) (l2 : n2 ≤ 65536)
    (e0 : x0.length = M) (e1 : x1.length = K) (e2 : x2.length = n0) (e3 : x3.length = M) (e4 : x4.length = n2) (e6 : x6.length = K) (e7 : x7.length = K) (eA : rA.length = K) (eB : rB.length = K) (e9 : x9.length = M)
    (ra0 : Reads (Value.int .i64) w a0 x0) (rb0 : Reads (Value.int .i64) w b0 x0) (ra1 : Reads (Value.int .i64) w a1 x1) (rb1 : Reads (Value.int .i64) w b1 x1) (ra2 : Reads (Value.int .i64) w a2 x2) (rb2 : Reads (Value.int .i64) w b2 x2)
    (ra3 : Reads Value.string w a3 x3) (rb3 : Reads Value.string w b3 x3) (ra4 : Reads Value.string w a4 x4) (rb4 : Reads Value.string w b4 x4) (r5 : SameVoid w a5 b5 n5 m5)
    (ra6 : Reads (Value.int .i64) w a6 x6) (rb6 : Reads (Value.int .i64) w b6 x6) (ra7 : Reads (Value.int .i64) w a7 x7) (rb7 : Reads (Value.int .i64) w b7 x7) (ra8 : Reads Value.string w a8 rA) (rb8 : Reads Value.string w b8 rB) (ra9 : Reads (Value.int .i64) w a9 x9) (rb9 : Reads (Value.int .i64) w b9 x9)
    (hrf : ∀ f (h1 : f < x6.length) (h2 : f < rA.length) (h3 : f < rB.length), 0 < x6[f] → (rA[f].toList == rB[f].toList) = true) :
    Calls Try.prog 14 #[.agg #[.slice a0 M k0, .slice a1 K k1, .slice a2 n0 k2, .slice a3 M k3, .slice a4 n2 k4, .slice a5 n5 k5, .slice a6 K k6, .slice a7 K k7, .slice a8 K k8, .slice a9 M k9],
      .agg #[.slice b0 M j0, .slice b1 K j1, .slice b2 n0 j2, .slice b3 M j3, .slice b4 n2 j4, .slice b5 m5 j5, .slice b6 K j6, .slice b7 K j7, .slice b8 K j8, .slice b9 M j9]] w fun e w' => e = .returned (.bool true) ∧ Below w.heap.size w w' := by
  have C0 := hide (fun W (h : Below w.heap.size w W) => sameInts_true a0 b0 k0 j0 M x0 W (by omega) e0 (ra0.keep h) (rb0.keep h))
  have C1 := hide (fun W (h : Below w.heap.size w W) => sameInts_true a1 b1 k1 j1 K x1 W (by omega) e1 (ra1.keep h) (rb1.keep h))
  have C2 := hide (fun W (h : Below w.heap.size w W) => sameInts_true a2 b2 k2 j2 n0 x2 W (by omega) e2 (ra2.keep h) (rb2.keep h))
  have C3 := hide (fun W (h : Below w.heap.size w W) => sameStrings_true a3 b3 k3 j3 M x3 W (by omega) e3 (ra3.keep h) (rb3.keep h))
  have C4 := hide (fun W (h : Below w.heap.size w W) => sameStrings_true a4 b4 k4 j4 n2 x4 W (by omega) e4 (ra4.keep h) (rb4.keep h))
  have C5 : Hid (∀ W, Below w.heap.size w W → Calls Try.prog 32 #[.slice a5 n5 k5, .slice b5 m5 j5] W fun e w' => e = .returned (.bool true) ∧ ∃ q, w' = W.drewN q) := fun W h => by
    rcases r5 with ⟨rfl, rfl, rfl, rfl⟩ | ⟨p, q, vs, rfl, rfl, hl, rfl, hn, h1, h2⟩
    · exact sameBools_none 0 k5 0 j5 W rfl rfl
    · exact sameBools_true p q k5 j5 m5 vs W (by omega) hl (h1.keep h) (h2.keep h)
  have C6 := hide (fun W (h : Below w.heap.size w W) => sameInts_true a6 b6 k6 j6 K x6 W (by omega) e6 (ra6.keep h) (rb6.keep h))
  have C7 := hide (fun W (h : Below w.heap.size w W) => sameInts_true a7 b7 k7 j7 K x7 W (by omega) e7 (ra7.keep h) (rb7.keep h))
  have C9 := hide (fun W (h : Below w.heap.size w W) => sameInts_true a9 b9 k9 j9 M x9 W (by omega) e9 (ra9.keep h) (rb9.keep h))
  have E6 := hide e6
  have EA := hide eA
  have EB := hide eB
  have HRF := hide hrf
  clear e0 e1 e2 e3 e4 e6 e7 eA eB e9 ra0 rb0 ra1 rb1 ra2 rb2 ra3 rb3 ra4 rb4 rb6 ra7 rb7 ra9 rb9 r5 hrf
  have hW0 : Hid (Below w.heap.size w ((w.alloc (.cells #[.slice a0 M k0, .slice a1 K k1, .slice a2 n0 k2, .slice a3 M k3, .slice a4 n2 k4, .slice a5 n5 k5, .slice a6 K k6, .slice a7 K k7, .slice a8 K k8, .slice a9 M k9] 31)).alloc (.cells #[.slice b0 M j0, .slice b1 K j1, .slice b2 n0 j2, .slice b3 M j3, .slice b4 n2 j4, .slice b5 m5 j5, .slice b6 K j6, .slice b7 K j7, .slice b8 K j8, .slice b9 M j9] 31))) := ((Below.refl _ _).alloc (Nat.le_refl _) _).alloc (by simp) _
  go_enter Try.func14, Try.ntmps14
  go_wp2_with fail
  refine (C0.out _ hW0.out).mono ?_
  rintro e w' ⟨rfl, q0, rfl⟩
  go_wp2_with fail
  refine (C1.out _ (below_drewN hW0.out _)).mono ?_
  rintro e w' ⟨rfl, q1, rfl⟩
  go_wp2_with fail
  refine (C2.out _ (below_drewN hW0.out _)).mono ?_
  rintro e w' ⟨rfl, q2, rfl⟩
  go_wp2_with fail
  refine (C3.out _ (below_drewN hW0.out _)).mono ?_
  rintro e w' ⟨rfl, q3, rfl⟩
  go_wp2_with fail
  refine (C4.out _ (below_drewN hW0.out _)).mono ?_
  rintro e w' ⟨rfl, q4, rfl⟩
  go_wp2_with fail
  refine (C5.out _ (below_drewN hW0.out _)).mono ?_
  rintro e w' ⟨rfl, q5, rfl⟩
  go_wp2_with fail
  refine (C6.out _ (below_drewN hW0.out _)).mono ?_
  rintro e w' ⟨rfl, q6, rfl⟩
  go_wp2_with fail
  refine (C7.out _ (below_drewN hW0.out _)).mono ?_
  rintro e w' ⟨rfl, q7, rfl⟩
  go_wp2_with fail
  refine (C9.out _ (below_drewN hW0.out _)).mono ?_
  rintro e w' ⟨rfl, q9, rfl⟩
  go_wp2
  go_loopw [5] (fun v wr => ∃ F : Nat, F ≤ K ∧ v = .int .i64 F ∧ ∃ q, wr = ((w.alloc (.cells #[.slice a0 M k0, .slice a1 K k1, .slice a2 n0 k2, .slice a3 M k3, .slice a4 n2 k4, .slice a5 n5 k5, .slice a6 K k6, .slice a7 K k7, .slice a8 K k8, .slice a9 M k9] 31)).alloc (.cells #[.slice b0 M j0, .slice b1 K j1, .slice b2 n0 j2, .slice b3 M j3, .slice b4 n2 j4, .slice b5 m5 j5, .slice b6 K j6, .slice b7 K j7, .slice b8 K j8, .slice b9 M j9] 31)).drewN q) (fun v _ => K - (intOf v).toNat)
  case atStart => exact ⟨0, Nat.zero_le _, rfl, _, rfl⟩
  case round =>
    obtain ⟨F, hF, rfl, q, rfl⟩ := hrel
    by_cases hlt : F < K
    · have hF6 : F < x6.length := by have := E6.out; omega
      have hFA : F < rA.length := by have := EA.out; omega
      have hFB : F < rB.length := by have := EB.out; omega
      have hltI : (F : Int) < (K : Int) := by omega
      obtain ⟨b, o, hp, hc⟩ := (ra6.keep hW0.out) F hF6
      obtain ⟨bA, oA, hpA, hcA⟩ := (ra8.keep hW0.out) F hFA
      obtain ⟨bB, oB, hpB, hcB⟩ := (rb8.keep hW0.out) F hFB
      cases hp
      cases hpA
      cases hpB
      by_cases hpos : 0 < x6[F]
      · have heq := HRF.out F hF6 hFA hFB hpos
        have hd : decide (0 < x6[F]) = true := by simpa using hpos
        go_wp2
        go_quiet (fail)
        go_wp2
        go_roundw
        case rel => exact ⟨F + 1, by omega, by go_num, _, rfl⟩
        case measure => simp [intOf]; omega
      · have hd : decide (0 < x6[F]) = false := by simpa using hpos
        go_wp2
        go_quiet (fail)
        go_wp2
        go_roundw
        case rel => exact ⟨F + 1, by omega, by go_num, _, rfl⟩
        case measure => simp [intOf]; omega
    · go_wp2
      go_ret
      exact ⟨rfl, below_drewN hW0.out _⟩
end Go.Proofs.Qxb6604777a
