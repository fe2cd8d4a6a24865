/-
  claim, whatever the claim says: both ways under one contract.
-/
import Derived.Test.Qxb6604777aClaim
namespace Go.Proofs.Qxb6604777a
set_option linter.unusedSimpArgs false
set_option linter.unusedVariables false
open Go.RowKit

theorem VoidF.keep {w w' : World} {V : Value} {T bx bi br bs bu n2 : Nat} {vo : Option (List Bool)} (h : VoidF w V T bx bi br bs bu n2 vo) (hb : Below w.heap.size w w') : VoidF w' V T bx bi br bs bu n2 vo := by
  rcases h with h | ⟨bv, vs, hV, hvo, hl, ho, ha⟩
  · exact .inl h
  · exact .inr ⟨bv, vs, hV, hvo, hl, ho.keep hb, ha⟩

/-- What claim leaves, whatever it says. -/
structure ClaimBoth (w w' : World) (T bx bi br bs bu n0 M K n2 : Nat) (ac av av' : Option Addr) (nv' cv' : Nat) (v1 : Value) (idx : List Int) (inputs rec : List ByteArray) (ps es : List Int) (rs : List ByteArray) (sup' : List Int) (vo' : Option (List Bool)) : Prop where
  tal : TalW w' T bx bi br bs bu n0 M K n2 ac v1 (.slice av' nv' cv') idx inputs rec ps es rs sup'
  void : VoidF w' (.slice av' nv' cv') T bx bi br bs bu n2 vo'
  low : ∀ C (x : World), C ≤ T → C ≤ bu → C ≤ w.heap.size → (∀ p, av = some p → C ≤ p.block) → Below C x w → Below C x w'
  other : ∀ k, k < w.heap.size → k ≠ T → k ≠ bu → (∀ p, av = some p → k ≠ p.block) → w'.heap[k]? = w.heap[k]?
  size : w.heap.size ≤ w'.heap.size

theorem claim_both (T bx bi br bs bu n0 M K n2 : Nat) (ac av : Option Addr) (nv cv : Nat) (v1 : Value) (idx : List Int) (inputs rec : List ByteArray) (ps es : List Int) (rs : List ByteArray) (sup : List Int) (vo : Option (List Bool)) (w : World) (A B f c : Nat) (v : ByteArray)
    (h : TalW w T bx bi br bs bu n0 M K n2 ac v1 (.slice av nv cv) idx inputs rec ps es rs sup) (hV : VoidF w (.slice av nv cv) T bx bi br bs bu n2 vo) (hN : TalN n0 M K n2 idx inputs rec sup A B f c) :
    Calls Try.prog 34 #[.pointer (some ⟨T, 0, none⟩), .int .i64 ((B : Int) + 1), .int .i64 ((A : Int) + 1), .string v] w fun e w' => e = .returned (.tuple #[]) ∧ ∃ av' nv' cv',
      ClaimBoth w w' T bx bi br bs bu n0 M K n2 ac av av' nv' cv' v1 idx inputs rec ps es rs
        (if (rec.getD (f * M + c) emptyS).toList == v.toList then sup else sup.set c (sup.getD c 0 - cntV (rec.getD (f * M + c) emptyS) (inputs.getD c emptyS) (ps.getD f 0 == es.getD f 0) (voidAt vo (f * M + c))))
        (if (rec.getD (f * M + c) emptyS).toList == v.toList then vo else some ((flags n2 vo).set (f * M + c) true)) := by
  have hir : f * M + c < rec.length := by
    have h1 := mul_le_room hN.kn hN.fK
    have h2 := hN.kr
    have h3 := hN.cM
    omega
  have e2 : rec.getD (f * M + c) emptyS = rec[f * M + c] := by rw [List.getD_eq_getElem?_getD, List.getElem?_eq_getElem hir]; rfl
  by_cases he : (rec[f * M + c].toList == v.toList) = true
  · rw [if_pos (by rw [e2]; exact he), if_pos (by rw [e2]; exact he)]
    refine (claim_skip T bx bi br bs bu n0 M K n2 ac v1 _ idx inputs rec ps es rs sup w A B f c v h hN hir he).mono ?_
    rintro e w' ⟨rfl, q, rfl⟩
    exact ⟨rfl, av, nv, cv, h.keep (drewN_below w q), hV.keep (drewN_below w q), fun C x _ _ hC _ hx => hx.trans ((drewN_below w q).mono hC), fun _ _ _ _ _ => rfl, Nat.le_refl _⟩
  · have he' : (rec[f * M + c].toList == v.toList) = false := by simpa using he
    rw [if_neg (by rw [e2, he']; decide), if_neg (by rw [e2, he']; decide)]
    refine (claim_any T bx bi br bs bu n0 M K n2 ac av nv cv v1 idx inputs rec ps es rs sup vo w A B f c v h hV hN hir he').mono ?_
    rintro e w' ⟨rfl, bv, hC, hbv⟩
    have hvl : (flags n2 vo).length = n2 := flags_length n2 vo fun vs hvs => by
      rcases hV with ⟨_, e⟩ | ⟨_, vs', _, e, hl, _⟩
      · rw [hvs] at e; cases e
      · rw [hvs] at e; cases e; exact hl
    have hx1 := h.index.lt
    have hx2 := h.ins.lt
    have hx3 := h.recs.lt
    have hx4 := h.shown.lt
    have hx5 := h.sup.lt
    have hx6 := h.tal.lt
    have hfar : bv ≠ T ∧ bv ≠ bx ∧ bv ≠ bi ∧ bv ≠ br ∧ bv ≠ bs ∧ bv ≠ bu := by
      rcases hV with ⟨_, e⟩ | ⟨b', vs', e, _, _, _, ha⟩
      · have := hC.place e
        omega
      · cases e
        have := hbv _ rfl
        rw [this]
        exact ha
    have hge : ∀ C, C ≤ w.heap.size → (∀ p, av = some p → C ≤ p.block) → C ≤ bv := fun C hC1 hp => by
      rcases hV with ⟨_, e⟩ | ⟨b', vs', e, _⟩
      · have := hC.place e
        omega
      · cases e
        have := hbv _ rfl
        have := hp _ rfl
        omega
    refine ⟨rfl, some ⟨bv, 0, none⟩, n2, n2, hC.tal, .inr ⟨bv, _, rfl, rfl, by rw [List.length_set]; exact hvl, hC.void, hfar⟩, fun C x h1 h2 h3 h4 hx => hC.low C x h1 h3 h2 (hge C h3 h4) hx, fun k hk h1 h2 h3 => hC.other k hk h1 h2 ?_, hC.size⟩
    rcases hV with ⟨_, e⟩ | ⟨b', vs', e, _⟩
    · have := hC.place e
      omega
    · cases e
      rw [hbv _ rfl]
      exact h3 _ rfl
end Go.Proofs.Qxb6604777a
