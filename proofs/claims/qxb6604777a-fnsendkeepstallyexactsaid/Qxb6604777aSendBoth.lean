/-
  send on a tally in its exact state, whatever is sent: it is left in the exact state of the new entries.
-/
import Derived.Test.Qxb6604777aSend
namespace Go.Proofs.Qxb6604777a
set_option linter.unusedSimpArgs false
set_option linter.unusedVariables false
open Go.RowKit

theorem bytes_eq {a b : ByteArray} (h : (a.toList == b.toList) = true) : a = b := by
  have h1 : a.toList = b.toList := by simpa using h
  rw [ByteArray.toList_eq, ByteArray.toList_eq] at h1
  cases a
  cases b
  simp only [ByteArray.mk.injEq]
  exact Array.toList_inj.1 h1

/-- The references agree with the state's own wherever something is held. -/
def RefsOk (M K : Nat) (rec rs : List ByteArray) : Prop := ∀ g, g < K → presC (colAt rec (g * M) M) ≠ 0 → rs.getD g emptyS = refC (colAt rec (g * M) M)

theorem send_both (T bx bi br bs bu n0 M K n2 : Nat) (ac : Option Addr) (v1 : Value) (idx : List Int) (inputs rec : List ByteArray) (w : World) (A B f c : Nat) (v : ByteArray)
    (h : TalW w T bx bi br bs bu n0 M K n2 ac v1 (.slice none 0 0) idx inputs rec (presL M rec K) (eqL M rec K) (refL M rec K) (supL M inputs rec none K)) (ha : Apart3 bx bi br bs) (hN : TalN n0 M K n2 idx inputs rec (supL M inputs rec none K) A B f c)
    (hin : ∀ o, o < M → nem (inputs.getD o emptyS) = true) (he : EmptyPast M rec f c) :
    Calls Try.prog 27 #[.pointer (some ⟨T, 0, none⟩), .int .i64 ((A : Int) + 1), .int .i64 ((B : Int) + 1), .string v] w fun e w' => e = .returned (.tuple #[]) ∧ ∃ rs', rs'.length = K ∧ RefsOk M K (rec.set (f * M + c) v) rs' ∧
      SentAt w w' T bx bi br bs bu n0 M K n2 ac v1 idx inputs (rec.set (f * M + c) v) (presL M (rec.set (f * M + c) v) K) (eqL M (rec.set (f * M + c) v) K) rs' (supL M inputs (rec.set (f * M + c) v) none K) := by
  have hroom := mul_le_room hN.kn hN.fK
  have hr : f * M + M ≤ rec.length := by rw [hN.kr]; exact hroom
  have hcM := hN.cM
  have hfK := hN.fK
  have hir : f * M + c < rec.length := by omega
  have hg : rec.getD (f * M + c) emptyS = rec[f * M + c] := by rw [List.getD_eq_getElem?_getD, List.getElem?_eq_getElem hir]; rfl
  by_cases hv : (v.toList == rec[f * M + c].toList) = true
  · have hve := bytes_eq hv
    have hsame : rec.set (f * M + c) v = rec := by
      have := set_getD rec (f * M + c) hir emptyS
      rw [hg, ← hve] at this
      exact this
    rw [hsame]
    refine (send_skip T bx bi br bs bu n0 M K n2 ac v1 _ idx inputs rec _ _ _ _ w A B f c v h hN hir hv).mono ?_
    rintro e w' ⟨rfl, q, rfl⟩
    exact ⟨rfl, refL M rec K, refL_length _ _ _, fun g hgK _ => refL_at M K rec g hgK, (SentAt.start h).keep (drewN_below w q)⟩
  · have hv' : (v.toList == rec[f * M + c].toList) = false := by simpa using hv
    obtain ⟨s1, s2, s3⟩ := send_shown M K rec f c v hfK hcM hr he
    rw [hg] at s1 s2 s3
    have hlen : (colAt rec (f * M) M).length = M := colAt_length _ _ _ hr
    have hPb : 0 ≤ (presL M rec K).getD f 0 ∧ (presL M rec K).getD f 0 ≤ 65536 := by
      rw [presL_at M rec K f hfK]
      have := presC_le (colAt rec (f * M) M)
      have := hN.lM
      omega
    have hEb : 0 ≤ (eqL M rec K).getD f 0 ∧ (eqL M rec K).getD f 0 ≤ 65536 := by
      rw [eqL_at M rec K f hfK]
      have := eqC_le (colAt rec (f * M) M)
      have := hN.lM
      omega
    refine (send_any T bx bi br bs bu n0 M K n2 ac v1 idx inputs rec _ _ _ _ w A B f c v _ _ _ h ha hN (presL_length _ _ _) (eqL_length _ _ _) (refL_length _ _ _) rfl rfl rfl hPb hEb hir hv').mono ?_
    rintro e w' ⟨rfl, hS⟩
    refine ⟨rfl, (refL M rec K).set f (shR ((presL M rec K).getD f 0) ((refL M rec K).getD f emptyS) rec[f * M + c] v), by rw [List.length_set, refL_length], ?_, ?_⟩
    · intro g hgK hne
      by_cases e : g = f
      · subst e
        rw [getD_set_same _ _ (by rw [refL_length]; exact hgK)]
        exact s3 hne
      · rw [getD_set_ne _ _ _ e, refL_at M K rec g hgK, colAt_set_far M rec f g c v hcM e]
    · rw [s1, s2] at hS
      rw [presL_set M K rec f c v hfK hcM, eqL_set M K rec f c v hfK hcM, send_law M K inputs rec f c v hfK hcM hin]
      have ag : ((presL M rec K).getD f 0 == (eqL M rec K).getD f 0) = agrC (colAt rec (f * M) M) := agree_at M rec K f hfK
      have ag' : ((presC (colAt (rec.set (f * M + c) v) (f * M) M) : Int) == (eqC (colAt (rec.set (f * M + c) v) (f * M) M) : Int)) = agrC (colAt (rec.set (f * M + c) v) (f * M) M) := by
        rw [← agree_iff, Bool.eq_iff_iff, beq_iff_eq, beq_iff_eq]
        omega
      rw [ag, ag'] at hS
      exact hS
end Go.Proofs.Qxb6604777a
