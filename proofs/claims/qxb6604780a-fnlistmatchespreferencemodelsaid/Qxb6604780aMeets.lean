/-
  The walks of list's closure take and of the subset's meets.
-/
import Derived.Test.Qxb6604780aLive
import Derived.Deep.DeepCutAuto
import Derived.Deep.CutBlock
namespace Go.Proofs.Qxb6604780a
set_option linter.unusedSimpArgs false
set_option linter.unusedVariables false
open Go.RowKit

set_option maxHeartbeats 2000000 in
theorem take_any (K : Blks) (S : LS) (i : Nat) (w : World) (hL : Live K w S) (hi : i < K.N) (hN : K.N ≤ 32768) (hlen : S.chosen.length ≤ 1000000) :
    Calls Try.prog 35 #[.int .i64 (i : Int), .pointer (some ⟨K.tb, 0, none⟩), .pointer (some ⟨K.cb, 0, none⟩)] w fun e w' => e = .returned (.tuple #[]) ∧ Live K w' (S.take (i : Int)) ∧ Below K.B w w' := by
  obtain ⟨v, vc, h⟩ := hL
  obtain ⟨i0, hi0, hz0, hz1, hz2⟩ := info_parts info3
  have c1 := h.flagBox
  have c2 := h.takenCell hi
  have f2 := h.kt.frozen i
  have h1 := h.setTaken i true
  have hB1 : Hid (Below K.B w (w.setCell ⟨K.kb, i, none⟩ (.bool true))) := (Below.refl _ _).setCell (by exact h.low _ LiveAt.mem_kb) _
  obtain ⟨c3, f3⟩ := h1.boxCell
  have H1 := hide h1
  have HL := hide h.ktl
  have HB := hide (Nat.le_trans (h.low _ LiveAt.mem_kb) (Nat.le_of_lt h.kt.lt))
  clear h h1
  have hiI : (i : Int) < (K.N : Int) := by omega
  go_enter Try.func35, Try.ntmps35
  go_wp2_with (at_builtin; refine wpList_append_lies _ rfl _ _ _ rfl K.B 3 i0 _ 1 8 Try.underlying22 hi0 hz0 hz1 hz2 rfl (by omega) v _ _ rfl (H1.out.kv.alloc _) _ 1 1 [.int .i64 (i : Int)] rfl rfl (news_one _ _ _ _ (by simp)) (one_oneCell _ rfl) (by omega) (by simp [maxLen]; omega) (by simp; omega) (by have := HB.out; simp; omega) (w.heap.size + 1) (by simp) ?_)
  intro g cap w2 hown hgrow hat hlt
  have h2 := hide (H1.out.setChosen i _ hown hgrow (by simpa using hat))
  have hcb := ((H1.out.alloc (.cells #[.int .i64 (i : Int)] 3)).lt _ LiveAt.mem_cb)
  have hne : some K.cb ≠ v.ownBlock := fun e => H1.out.kvf _ e.symm LiveAt.mem_cb
  have c4 := (hgrow.cell_far ⟨K.cb, 0, none⟩ hcb hne).trans ((H1.out.alloc _).boxCell.1)
  have f4 := (hgrow.frozen_far ⟨K.cb, 0, none⟩ hcb hne).trans ((H1.out.alloc _).boxCell.2)
  have hB2 : Hid (Below K.B w (w2.setCell ⟨K.cb, 0, none⟩ (.slice (some ⟨g, 0, none⟩) (S.chosen.length + 1) cap))) := by
    have a1 := hB1.out.alloc (Nat.le_trans HB.out (by simp)) (.cells #[.int .i64 (i : Int)] 3)
    have a2 : Below K.B ((w.setCell ⟨K.kb, i, none⟩ (.bool true)).alloc (.cells #[.int .i64 (i : Int)] 3)) w2 :=
      ⟨hgrow.os, hgrow.tape, hgrow.output, hgrow.size, fun k hk => hgrow.block k (by have := HB.out; simp; omega) (fun e => by
        have := (H1.out.kv.lt k e.symm).1
        omega)⟩
    exact (a1.trans a2).setCell (by exact H1.out.low _ LiveAt.mem_cb) _
  clear hgrow hown hat hcb hne hlt
  go_wp2
  go_end0
  exact ⟨rfl, ⟨_, _, h2.out⟩, hB2.out⟩

set_option maxHeartbeats 2000000 in
theorem meets_any (K : Blks) (S : LS) (s o i : Nat) (w : World) (hs : K.sub = some (s, o)) (hL : Live K w S) (hi : i < K.N) (hN : K.N ≤ 32768) (hlen : S.cons.length ≤ 1000000) :
    Calls Try.prog 36 #[.pointer (some ⟨s, 0, none⟩), .int .i64 (i : Int)] w fun e w' => e = .returned (.bool (S.may (i : Int))) ∧ Live K w' (S.met (i : Int)) ∧ Below K.B w w' := by
  obtain ⟨v, vc, h⟩ := hL
  have hiI : (i : Int) < (K.N : Int) := by omega
  obtain ⟨c1, c1', c1'', f1⟩ := h.subCells hs
  have c2 := h.ofCell hs hi
  have f2 := (h.ks s o hs).2.1.frozen i
  by_cases h1 : S.ofs.getD i 0 = 1
  · have e1 : S.may (i : Int) = false := by unfold LS.may; rw [Int.toNat_natCast, h1]; rfl
    have e2 : S.met (i : Int) = S := by unfold LS.met; rw [Int.toNat_natCast, if_neg (by omega)]
    rw [e1, e2]
    have H := hide h
    rw [h1] at c2
    clear h h1 e1 e2
    go_enter Try.func36, Try.ntmps36
    go_wp2
    go_ret
    exact ⟨rfl, ⟨_, _, H.out⟩, Below.refl _ _⟩
  · have e1 : S.may (i : Int) = true := by unfold LS.may; rw [Int.toNat_natCast, beq_false_of_ne h1]; rfl
    by_cases h2 : S.ofs.getD i 0 = 2
    · have e2 : S.met (i : Int) = { S with ofs := S.ofs.set i 0, cons := S.cons ++ [(i : Int)] } := by unfold LS.met; rw [Int.toNat_natCast, if_pos h2]
      rw [e1, e2]
      rw [h2] at c2
      obtain ⟨i0, hi0, hz0, hz1, hz2⟩ := info_parts info3
      have k1 := h.setOf hs i 0
      have hB1 : Hid (Below K.B w (w.setCell ⟨o, i, none⟩ (.int .u8 0))) := (Below.refl _ _).setCell (by exact h.low _ (LiveAt.mem_o hs)) _
      obtain ⟨_, _, c3, f3⟩ := k1.subCells hs
      have H1 := hide k1
      have HB := hide (Nat.le_trans (h.low _ LiveAt.mem_kb) (Nat.le_of_lt h.kt.lt))
      have HS := hide hs
      clear h h1 h2 e1 e2 hs k1
      go_enter Try.func36, Try.ntmps36
      go_wp2_with (at_builtin; refine wpList_append_lies _ rfl _ _ _ rfl K.B 3 i0 _ 1 8 Try.underlying22 hi0 hz0 hz1 hz2 rfl (by omega) vc _ _ rfl (H1.out.kcv.alloc _) _ 1 1 [.int .i64 (i : Int)] rfl rfl (news_one _ _ _ _ (by simp)) (one_oneCell _ rfl) (by omega) (by simp [maxLen]; omega) (by simp; omega) (by have := HB.out; simp; omega) (w.heap.size + 1) (by simp) ?_)
      intro g cap w2 hown hgrow hat hlt
      have h2 := hide (H1.out.setCons HS.out i _ hown hgrow (by simpa using hat))
      have hcb := ((H1.out.alloc (.cells #[.int .i64 (i : Int)] 3)).lt _ (LiveAt.mem_s HS.out))
      have hne : some s ≠ vc.ownBlock := fun e => (H1.out.kcf _ e.symm).1 (LiveAt.mem_s HS.out)
      have c4 := (hgrow.cell_far ⟨s, 2, none⟩ hcb hne).trans ((H1.out.alloc _).subCells HS.out).2.2.1
      have f4 := (hgrow.frozen_far ⟨s, 2, none⟩ hcb hne).trans ((H1.out.alloc _).subCells HS.out).2.2.2
      have hB2 : Hid (Below K.B w (w2.setCell ⟨s, 2, none⟩ (.slice (some ⟨g, 0, none⟩) (S.cons.length + 1) cap))) := by
        have a1 := hB1.out.alloc (Nat.le_trans HB.out (by simp)) (.cells #[.int .i64 (i : Int)] 3)
        have a2 : Below K.B ((w.setCell ⟨o, i, none⟩ (.int .u8 0)).alloc (.cells #[.int .i64 (i : Int)] 3)) w2 :=
          ⟨hgrow.os, hgrow.tape, hgrow.output, hgrow.size, fun k hk => hgrow.block k (by have := HB.out; simp; omega) (fun e => by
            have := (H1.out.kcv.lt k e.symm).1
            omega)⟩
        exact (a1.trans a2).setCell (by exact H1.out.low _ (LiveAt.mem_s HS.out)) _
      clear hgrow hown hat hcb hne hlt
      go_wp2
      go_ret
      exact ⟨rfl, ⟨_, _, h2.out⟩, hB2.out⟩
    · have e2 : S.met (i : Int) = S := by unfold LS.met; rw [Int.toNat_natCast, if_neg h2]
      rw [e1, e2]
      have H := hide h
      obtain ⟨y, hy⟩ : ∃ y, S.ofs.getD i 0 = y := ⟨_, rfl⟩
      rw [hy] at c2 h1 h2
      have b1 : (y == 1) = false := by simpa using h1
      have b2 : (y == 2) = false := by simpa using h2
      clear h h1 h2 e1 e2 hy
      go_enter Try.func36, Try.ntmps36
      go_wp2
      go_ret
      exact ⟨rfl, ⟨_, _, H.out⟩, Below.refl _ _⟩
#print axioms take_any
#print axioms meets_any
end Go.Proofs.Qxb6604780a
