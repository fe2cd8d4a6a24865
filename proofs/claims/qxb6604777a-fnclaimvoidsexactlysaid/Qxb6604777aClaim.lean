/-
  The walk of claim.
-/
import Derived.Test.Qxb6604777aCounts
import Derived.Test.Qxb6604777aMake
import Derived.Deep.DeepCutAuto
namespace Go.Proofs.Qxb6604777a
set_option linter.unusedSimpArgs false
set_option linter.unusedVariables false
open Go.RowKit

/-- A tally in memory. -/
structure TalW (w : World) (T bx bi br bs bu n0 M K n2 : Nat) (ac : Option Addr) (v1 V : Value) (idx : List Int) (inputs rec : List ByteArray) (ps es : List Int) (rs : List ByteArray) (sup : List Int) : Prop where
  tal : TalAt w T (.slice ac M n0) v1 (.slice (some ⟨bx, 0, none⟩) n0 n0) (.slice (some ⟨bi, 0, none⟩) M M) (.slice none 0 0) (.int .i64 0) (.slice (some ⟨br, 0, none⟩) n2 n2) V (.slice (some ⟨bs, 0, none⟩) K K) (.slice (some ⟨bu, 0, none⟩) M M)
  index : Own (Value.int .i64) 3 w bx n0 idx
  ins : Own Value.string 49 w bi M inputs
  recs : Own Value.string 49 w br n2 rec
  shown : ShownAt w bs K K ps es rs
  sup : Own (Value.int .i64) 3 w bu M sup
  apart : bu ≠ T ∧ bu ≠ bx ∧ bu ≠ bi ∧ bu ≠ br ∧ bu ≠ bs ∧ T ≠ bx ∧ T ≠ bi ∧ T ≠ br ∧ T ≠ bs

/-- The sizes that the tallies of this seat have. -/
structure TalN (n0 M K n2 : Nat) (idx : List Int) (inputs rec : List ByteArray) (sup : List Int) (A B f c : Nat) : Prop where
  l0 : n0 ≤ 65536
  lM : M ≤ 65536
  lK : K ≤ 65536
  l2 : n2 ≤ 65536
  kn : n2 = K * M
  kx : idx.length = n0
  ki : inputs.length = M
  kr : rec.length = n2
  ks : sup.length = M
  fK : f < K
  cM : c < M
  kA : A < n0
  kB : B < n0
  iA : idx.getD A 0 = (f : Int)
  iB : idx.getD B 0 = (c : Int)
  room : ∀ x ∈ sup, 0 ≤ x ∧ x ≤ 65536

theorem TalW.keep {w w' : World} {T bx bi br bs bu n0 M K n2 : Nat} {ac : Option Addr} {v1 V : Value} {idx : List Int} {inputs rec : List ByteArray} {ps es : List Int} {rs : List ByteArray} {sup : List Int}
    (h : TalW w T bx bi br bs bu n0 M K n2 ac v1 V idx inputs rec ps es rs sup) (hb : Below w.heap.size w w') : TalW w' T bx bi br bs bu n0 M K n2 ac v1 V idx inputs rec ps es rs sup :=
  ⟨h.tal.of_block (hb.block _ h.tal.lt), h.index.keep hb, h.ins.keep hb, h.recs.keep hb, h.shown.of_block (hb.block _ h.shown.lt), h.sup.keep hb, h.apart⟩
theorem TalW.setSup {w : World} {T bx bi br bs bu n0 M K n2 : Nat} {ac : Option Addr} {v1 V : Value} {idx : List Int} {inputs rec : List ByteArray} {ps es : List Int} {rs : List ByteArray} {sup : List Int}
    (h : TalW w T bx bi br bs bu n0 M K n2 ac v1 V idx inputs rec ps es rs sup) (c : Nat) (x : Int) : TalW (w.setCell ⟨bu, c, none⟩ (.int .i64 x)) T bx bi br bs bu n0 M K n2 ac v1 V idx inputs rec ps es rs (sup.set c x) := by
  obtain ⟨h1, h2, h3, h4, h5, _⟩ := h.apart
  exact ⟨h.tal.of_block (Below.heap_setCell _ _ _ _ (fun e => h1 e.symm)), h.index.other (fun e => h2 e.symm) _, h.ins.other (fun e => h3 e.symm) _, h.recs.other (fun e => h4 e.symm) _, h.shown.of_block (Below.heap_setCell _ _ _ _ (fun e => h5 e.symm)), h.sup.set c x, h.apart⟩
/-- A store into a block that is none of the tally's. -/
theorem TalW.other {w : World} {T bx bi br bs bu n0 M K n2 : Nat} {ac : Option Addr} {v1 V : Value} {idx : List Int} {inputs rec : List ByteArray} {ps es : List Int} {rs : List ByteArray} {sup : List Int}
    (h : TalW w T bx bi br bs bu n0 M K n2 ac v1 V idx inputs rec ps es rs sup) {p : Addr} (hp : T ≠ p.block ∧ bx ≠ p.block ∧ bi ≠ p.block ∧ br ≠ p.block ∧ bs ≠ p.block ∧ bu ≠ p.block) (v : Value) : TalW (w.setCell p v) T bx bi br bs bu n0 M K n2 ac v1 V idx inputs rec ps es rs sup := by
  obtain ⟨h0, h1, h2, h3, h4, h5⟩ := hp
  exact ⟨h.tal.of_block (Below.heap_setCell _ _ _ _ h0), h.index.other h1 _, h.ins.other h2 _, h.recs.other h3 _, h.shown.of_block (Below.heap_setCell _ _ _ _ h4), h.sup.other h5 _, h.apart⟩
theorem TalW.set7 {w : World} {T bx bi br bs bu n0 M K n2 : Nat} {ac : Option Addr} {v1 V : Value} {idx : List Int} {inputs rec : List ByteArray} {ps es : List Int} {rs : List ByteArray} {sup : List Int}
    (h : TalW w T bx bi br bs bu n0 M K n2 ac v1 V idx inputs rec ps es rs sup) (V' : Value) : TalW (w.setCell ⟨T, 7, none⟩ V') T bx bi br bs bu n0 M K n2 ac v1 V' idx inputs rec ps es rs sup := by
  obtain ⟨h0, _, _, _, _, h1, h2, h3, h4⟩ := h.apart
  exact ⟨h.tal.set7 V', h.index.other (fun e => h1 e.symm) _, h.ins.other (fun e => h2 e.symm) _, h.recs.other (fun e => h3 e.symm) _, h.shown.of_block (Below.heap_setCell _ _ _ _ (fun e => h4 e.symm)), h.sup.other h0 _, h.apart⟩

theorem drewN_below (w : World) (q : Nat) : Below w.heap.size w (w.drewN q) := ⟨rfl, rfl, rfl, Nat.le_refl _, fun _ _ => rfl⟩

theorem cntV_bounds (r x : ByteArray) (ag vd : Bool) : 0 ≤ cntV r x ag vd ∧ cntV r x ag vd ≤ 1 := by unfold cntV; split <;> omega

theorem mul_le_room {f K M n2 : Nat} (hn2 : n2 = K * M) (hf : f < K) : f * M + M ≤ n2 := by
  subst hn2
  have : (f + 1) * M ≤ K * M := Nat.mul_le_mul_right M hf
  rw [Nat.add_mul] at this
  omega

theorem getD_int (l : List Int) (i : Nat) (h : i < l.length) : l[i] = l.getD i 0 := by rw [List.getD_eq_getElem?_getD, List.getElem?_eq_getElem h]; rfl

set_option maxRecDepth 100000 in
set_option maxHeartbeats 1000000 in
theorem claim_skip (T bx bi br bs bu n0 M K n2 : Nat) (ac : Option Addr) (v1 V : Value) (idx : List Int) (inputs rec : List ByteArray) (ps es : List Int) (rs : List ByteArray) (sup : List Int) (w : World) (A B f c : Nat) (v : ByteArray)
    (h : TalW w T bx bi br bs bu n0 M K n2 ac v1 V idx inputs rec ps es rs sup) (hN : TalN n0 M K n2 idx inputs rec sup A B f c) (hir : f * M + c < rec.length) (he : (rec[f * M + c].toList == v.toList) = true) :
    Calls Try.prog 34 #[.pointer (some ⟨T, 0, none⟩), .int .i64 ((B : Int) + 1), .int .i64 ((A : Int) + 1), .string v] w fun e w' => e = .returned (.tuple #[]) ∧ ∃ q, w' = w.drewN q := by
  obtain ⟨hl0, hlM, hlK, hl2, hn2, hxl, hil, hrl, hsl, hfK, hcM, hA, hB, hiA, hiB, hs0⟩ := hN
  have h0 := h.tal.c0
  have h2 := h.tal.c2
  have h6 := h.tal.c6
  have hA0 : (A : Int) < (n0 : Int) := by omega
  have hB0 : (B : Int) < (n0 : Int) := by omega
  have xA : w.cell? ⟨bx, A, none⟩ = some (.int .i64 f) := by rw [← hiA, ← getD_int idx A (by omega)]; exact h.index.cell (by omega)
  have xB : w.cell? ⟨bx, B, none⟩ = some (.int .i64 c) := by rw [← hiB, ← getD_int idx B (by omega)]; exact h.index.cell (by omega)
  have hm := mul_le_room hn2 hfK
  have hi0 : (0 : Int) ≤ (f : Int) * (M : Int) := by omega
  have hi1 : (f : Int) * (M : Int) + (M : Int) ≤ (n2 : Int) := by omega
  have hrc : w.cell? ⟨br, f * M + c, none⟩ = some (.string rec[f * M + c]) := h.recs.cell hir
  clear hn2 hxl hil hrl hsl hiA hiB hs0 h
  go_enter Try.func34, Try.ntmps34
  go_wp2
  go_quiet (fail)
  go_wp2
  exact bodyPost_ret (results_none rfl _ _ _) rfl ⟨rfl, _, rfl⟩

theorem rKeep {T bu bs f c : Nat} {x y u z0 z1 z2 : Value} {W w' : World} (hb : Below W.heap.size W w')
    (h : W.cell? ⟨T, 9, none⟩ = some x ∧ W.cell? ⟨T, 8, none⟩ = some y ∧ W.cell? ⟨bu, c, none⟩ = some u ∧ W.cell? ⟨bs, f * 3, none⟩ = some z0 ∧ W.cell? ⟨bs, f * 3 + 1, none⟩ = some z1 ∧ W.cell? ⟨bs, f * 3 + 2, none⟩ = some z2) :
    w'.cell? ⟨T, 9, none⟩ = some x ∧ w'.cell? ⟨T, 8, none⟩ = some y ∧ w'.cell? ⟨bu, c, none⟩ = some u ∧ w'.cell? ⟨bs, f * 3, none⟩ = some z0 ∧ w'.cell? ⟨bs, f * 3 + 1, none⟩ = some z1 ∧ w'.cell? ⟨bs, f * 3 + 2, none⟩ = some z2 := by
  obtain ⟨h0, h1, h5, h2, h3, h4⟩ := h
  exact ⟨(hb.cell (lt_of_cell h0)).trans h0, (hb.cell (lt_of_cell h1)).trans h1, (hb.cell (lt_of_cell h5)).trans h5, (hb.cell (lt_of_cell h2)).trans h2, (hb.cell (lt_of_cell h3)).trans h3, (hb.cell (lt_of_cell h4)).trans h4⟩

/-- The flags that a claim starts from. -/
def flags (n2 : Nat) : Option (List Bool) → List Bool
  | none => List.replicate n2 false
  | some vs => vs
theorem flags_getD (n2 i : Nat) (vo : Option (List Bool)) : (flags n2 vo).getD i false = voidAt vo i := by
  cases vo with
  | none =>
    simp only [flags, voidAt, List.getD_eq_getElem?_getD, List.getElem?_replicate]
    split <;> rfl
  | some vs => rfl
/-- The flags' field of a tally: nil, or a block of the call's own. -/
def VoidF (w : World) (V : Value) (T bx bi br bs bu n2 : Nat) (vo : Option (List Bool)) : Prop :=
  (V = .slice none 0 0 ∧ vo = none) ∨ ∃ bv vs, V = .slice (some ⟨bv, 0, none⟩) n2 n2 ∧ vo = some vs ∧ vs.length = n2 ∧ Own Value.bool 4 w bv n2 vs ∧ (bv ≠ T ∧ bv ≠ bx ∧ bv ≠ bi ∧ bv ≠ br ∧ bv ≠ bs ∧ bv ≠ bu)

/-- In the midst of claim: the flags are there. -/
structure MidAt (w wc : World) (T bx bi br bs bu bv n0 M K n2 : Nat) (ac : Option Addr) (v1 : Value) (idx : List Int) (inputs rec : List ByteArray) (ps es : List Int) (rs : List ByteArray) (sup : List Int) (vo : Option (List Bool)) : Prop where
  tal : TalW wc T bx bi br bs bu n0 M K n2 ac v1 (.slice (some ⟨bv, 0, none⟩) n2 n2) idx inputs rec ps es rs sup
  void : Own Value.bool 4 wc bv n2 (flags n2 vo)
  apart : bv ≠ T ∧ bv ≠ bx ∧ bv ≠ bi ∧ bv ≠ br ∧ bv ≠ bs ∧ bv ≠ bu
  low : ∀ A (x : World), A ≤ T → A ≤ w.heap.size → Below A x w → Below A x wc
  place : vo = none → w.heap.size ≤ bv
  other : ∀ k, k < w.heap.size → k ≠ T → wc.heap[k]? = w.heap[k]?
  size : w.heap.size ≤ wc.heap.size

/-- What claim leaves. -/
structure ClaimedAt (w w' : World) (T bx bi br bs bu bv n0 M K n2 : Nat) (ac : Option Addr) (v1 : Value) (idx : List Int) (inputs rec : List ByteArray) (ps es : List Int) (rs : List ByteArray) (sup : List Int) (vo : Option (List Bool)) (f c : Nat) : Prop where
  tal : TalW w' T bx bi br bs bu n0 M K n2 ac v1 (.slice (some ⟨bv, 0, none⟩) n2 n2) idx inputs rec ps es rs (sup.set c (sup.getD c 0 - cntV (rec.getD (f * M + c) emptyS) (inputs.getD c emptyS) (ps.getD f 0 == es.getD f 0) (voidAt vo (f * M + c))))
  void : Own Value.bool 4 w' bv n2 ((flags n2 vo).set (f * M + c) true)
  low : ∀ A (x : World), A ≤ T → A ≤ w.heap.size → A ≤ bu → A ≤ bv → Below A x w → Below A x w'
  place : vo = none → w.heap.size ≤ bv
  other : ∀ k, k < w.heap.size → k ≠ T → k ≠ bu → k ≠ bv → w'.heap[k]? = w.heap[k]?
  size : w.heap.size ≤ w'.heap.size

theorem claimed_of_mid {w wc w1 : World} {T bx bi br bs bu bv n0 M K n2 : Nat} {ac : Option Addr} {v1 : Value} {idx : List Int} {inputs rec : List ByteArray} {ps es : List Int} {rs : List ByteArray} {sup : List Int} {vo : Option (List Bool)} {f c : Nat}
    (hM : MidAt w wc T bx bi br bs bu bv n0 M K n2 ac v1 idx inputs rec ps es rs sup vo) (hb : Below wc.heap.size wc w1) (S N : Int) (hcs : c < sup.length) (hic : c < inputs.length) (hir : f * M + c < rec.length) (hS : sup[c] = S)
    (hN : cntV rec[f * M + c] inputs[c] (ps.getD f 0 == es.getD f 0) (voidAt vo (f * M + c)) = N) :
    ClaimedAt w ((w1.setCell ⟨bu, c, none⟩ (.int .i64 (S - N))).setCell ⟨bv, f * M + c, none⟩ (.bool true)) T bx bi br bs bu bv n0 M K n2 ac v1 idx inputs rec ps es rs sup vo f c := by
  obtain ⟨d1, d2, d3, d4, d5, d6⟩ := hM.apart
  have h1 := (hM.tal.keep hb).setSup c (S - N)
  have h2 := h1.other (p := ⟨bv, f * M + c, none⟩) ⟨fun e => d1 e.symm, fun e => d2 e.symm, fun e => d3 e.symm, fun e => d4 e.symm, fun e => d5 e.symm, fun e => d6 e.symm⟩ (.bool true)
  have hv := ((hM.void.keep hb).other (p := ⟨bu, c, none⟩) d6 (.int .i64 (S - N))).set (f * M + c) true
  have e1 : sup.getD c 0 = S := by rw [← getD_int sup c hcs]; exact hS
  have e2 : rec.getD (f * M + c) emptyS = rec[f * M + c] := by rw [List.getD_eq_getElem?_getD, List.getElem?_eq_getElem hir]; rfl
  have e3 : inputs.getD c emptyS = inputs[c] := by rw [List.getD_eq_getElem?_getD, List.getElem?_eq_getElem hic]; rfl
  refine ⟨by rw [e1, e2, e3, hN]; exact h2, hv, fun A x hA1 hA2 hA3 hA4 hx => ?_, hM.place, fun k hk h1 h2 h3 => ?_, ?_⟩
  · exact (((hM.low A x hA1 hA2 hx).trans (hb.mono (Nat.le_trans hA2 hM.size))).setCell (by exact hA3) _).setCell (by exact hA4) _
  · rw [Below.heap_setCell _ _ _ _ h3, Below.heap_setCell _ _ _ _ h2, hb.block k (Nat.lt_of_lt_of_le hk hM.size)]
    exact hM.other k hk h1
  · have := hb.size
    have := hM.size
    simp
    omega

theorem flags_length (n2 : Nat) (vo : Option (List Bool)) (h : ∀ vs, vo = some vs → vs.length = n2) : (flags n2 vo).length = n2 := by
  cases vo with
  | none => simp [flags]
  | some vs => exact h vs rfl

set_option maxRecDepth 100000 in
set_option maxHeartbeats 4000000 in
theorem claim_any (T bx bi br bs bu n0 M K n2 : Nat) (ac av : Option Addr) (nv cv : Nat) (v1 : Value) (idx : List Int) (inputs rec : List ByteArray) (ps es : List Int) (rs : List ByteArray) (sup : List Int) (vo : Option (List Bool)) (w : World) (A B f c : Nat) (v : ByteArray)
    (h : TalW w T bx bi br bs bu n0 M K n2 ac v1 (.slice av nv cv) idx inputs rec ps es rs sup) (hV : VoidF w (.slice av nv cv) T bx bi br bs bu n2 vo) (hN : TalN n0 M K n2 idx inputs rec sup A B f c)
    (hir : f * M + c < rec.length) (he : (rec[f * M + c].toList == v.toList) = false) :
    Calls Try.prog 34 #[.pointer (some ⟨T, 0, none⟩), .int .i64 ((B : Int) + 1), .int .i64 ((A : Int) + 1), .string v] w fun e w' => e = .returned (.tuple #[]) ∧ ∃ bv, ClaimedAt w w' T bx bi br bs bu bv n0 M K n2 ac v1 idx inputs rec ps es rs sup vo f c ∧ (∀ p, av = some p → bv = p.block) := by
  have HN := hide hN
  have HV := hide hV
  have HH := hide h
  obtain ⟨hl0, hlM, hlK, hl2, hn2, hxl, hil, hrl, hsl, hfK, hcM, hA, hB, hiA, hiB, hs0⟩ := hN
  have h0 := h.tal.c0
  have h2 := h.tal.c2
  have h6 := h.tal.c6
  have h7 := h.tal.c7
  have h7f := h.tal.frozen 7
  have hA0 : (A : Int) < (n0 : Int) := by omega
  have hB0 : (B : Int) < (n0 : Int) := by omega
  have xA : w.cell? ⟨bx, A, none⟩ = some (.int .i64 f) := by rw [← hiA, ← getD_int idx A (by omega)]; exact h.index.cell (by omega)
  have xB : w.cell? ⟨bx, B, none⟩ = some (.int .i64 c) := by rw [← hiB, ← getD_int idx B (by omega)]; exact h.index.cell (by omega)
  have hm := mul_le_room hn2 hfK
  have hi0 : (0 : Int) ≤ (f : Int) * (M : Int) := by omega
  have hi1 : (f : Int) * (M : Int) + (M : Int) ≤ (n2 : Int) := by omega
  have hrc : w.cell? ⟨br, f * M + c, none⟩ = some (.string rec[f * M + c]) := h.recs.cell hir
  have hTlt := h.tal.lt
  have hcmp : ∀ W, (binOp .eql 22 (.slice av nv cv) (.slice none 0 0)).run Try.prog W = .ok (.bool vo.isNone) W := by
    intro W
    rcases hV with ⟨e, rfl⟩ | ⟨bv, vs, e, rfl, _⟩ <;> cases e
    · exact eq_nil_none Try.underlying22 0 0 W
    · exact eq_nil_some Try.underlying22 ⟨bv, 0, none⟩ n2 n2 W
  clear hn2 hxl hil hrl hsl hiA hiB hs0 h hV
  go_enter Try.func34, Try.ntmps34
  go_wp2
  go_quiet (fail)
  go_upto_if 49 with fail
  go_cut [] (fun wc => ∃ bv, MidAt w wc T bx bi br bs bu bv n0 M K n2 ac v1 idx inputs rec ps es rs sup vo ∧ (∀ p, av = some p → bv = p.block))
  case first =>
    rcases HV.out with ⟨e, rfl⟩ | ⟨bv, vs, e, rfl, hvl, hvs, hva⟩
    · cases e
      have hca : ∀ o q, ((w.drewN q).alloc o).cell? ⟨T, 7, none⟩ = some (.slice none 0 0) := fun o q => (((drewN_below w q).alloc (Nat.le_refl _) o).cell (p := ⟨T, 7, none⟩) hTlt).trans h7
      have hfa : ∀ o q, ((w.drewN q).alloc o).frozen? ⟨T, 7, none⟩ = false := fun o q => (((drewN_below w q).alloc (Nat.le_refl _) o).frozen (p := ⟨T, 7, none⟩) hTlt).trans h7f
      have hmk := run_make_row' (P := Try.prog) 22 4 (.bool false) 1 Try.underlying22 info4 rfl .i64 .i64 n2 (by omega) (by omega)
      go_wp2
      go_meet
      case rel =>
        have hb := (drewN_below w nq).alloc (Nat.le_refl _) (.cells (madeCells #[.bool false] n2) 4)
        have h1 := (HH.out).keep hb
        have h2 := h1.set7 (.slice (some ⟨w.heap.size, 0, none⟩) n2 n2)
        have hx1 := (HH.out).index.lt
        have hx2 := (HH.out).ins.lt
        have hx3 := (HH.out).recs.lt
        have hx4 := (HH.out).shown.lt
        have hx5 := (HH.out).sup.lt
        refine ⟨w.heap.size, ⟨h2, ?_, ⟨by omega, by omega, by omega, by omega, by omega, by omega⟩, fun A x hA1 hA2 hx => ?_, fun _ => Nat.le_refl _, fun k hk h1 => ?_, by simp⟩, fun p hp => by cases hp⟩
        · have := Own.made (f := Value.bool) (w.drewN nq) false n2 4 _ rfl
          exact this.other (by show w.heap.size ≠ T; omega) _
        · exact (Below.alloc (hx.trans ((drewN_below w nq).mono hA2)) (by exact hA2) _).setCell (by exact hA1) _
        · rw [Below.heap_setCell _ _ _ _ h1]
          exact Below.heap_alloc _ _ _ hk
    · cases e
      go_wp2
      go_meet
      case rel =>
        refine ⟨bv, ⟨(HH.out).keep (drewN_below w nq), hvs.keep (drewN_below w nq), hva, fun A x hA1 hA2 hx => hx.trans ((drewN_below w nq).mono hA2), fun h => (by cases h), fun _ _ _ => rfl, Nat.le_refl _⟩, fun p hp => by cases hp; rfl⟩
  case rest =>
    obtain ⟨bv, hM, hbv⟩ := hcut
    obtain ⟨hl0, hlM, hlK, hl2, hn2, hxl, hil, hrl, hsl, hfK, hcM, hA, hB, hiA, hiB, hs0⟩ := HN.out
    have hvl : (flags n2 vo).length = n2 := flags_length n2 vo fun vs hvs => by
      rcases HV.out with ⟨_, e⟩ | ⟨_, vs', _, e, hl, _⟩
      · rw [hvs] at e; cases e
      · rw [hvs] at e; cases e; exact hl
    have hcs : c < sup.length := by omega
    have hic : c < inputs.length := by omega
    have hiv : f * M + c < (flags n2 vo).length := by omega
    have h7 := hM.tal.tal.c7
    have h8 := hM.tal.tal.c8
    have h9 := hM.tal.tal.c9
    obtain ⟨S, hS⟩ : ∃ S, sup[c] = S := ⟨_, rfl⟩
    have hSb : 0 ≤ S ∧ S ≤ 65536 := by rw [← hS]; exact hs0 _ (List.getElem_mem hcs)
    have hsc : wc.cell? ⟨bu, c, none⟩ = some (.int .i64 S) := by rw [← hS]; exact hM.tal.sup.cell hcs
    have hsf := hM.tal.sup.frozen c
    obtain ⟨P, hP⟩ : ∃ P, ps.getD f 0 = P := ⟨_, rfl⟩
    obtain ⟨E, hE⟩ : ∃ E, es.getD f 0 = E := ⟨_, rfl⟩
    obtain ⟨R, hR⟩ : ∃ R, rs.getD f emptyS = R := ⟨_, rfl⟩
    have y0 : wc.cell? ⟨bs, f * 3, none⟩ = some (.int .i64 P) := by rw [← hP]; exact hM.tal.shown.p f hfK
    have y1 : wc.cell? ⟨bs, f * 3 + 1, none⟩ = some (.int .i64 E) := by rw [← hE]; exact hM.tal.shown.e f hfK
    have y2 : wc.cell? ⟨bs, f * 3 + 2, none⟩ = some (.string R) := by rw [← hR]; exact hM.tal.shown.r f hfK
    have hvd : (flags n2 vo)[f * M + c] = voidAt vo (f * M + c) := by rw [← flags_getD n2, getD_bool _ _ hiv]
    have hvc : wc.cell? ⟨bv, f * M + c, none⟩ = some (.bool (voidAt vo (f * M + c))) := by rw [← hvd]; exact hM.void.cell hiv
    have hvf := hM.void.frozen (f * M + c)
    have hmod : (f * M + c) % M = c := by rw [Nat.mul_comm, Nat.mul_add_mod]; exact Nat.mod_eq_of_lt hcM
    have hin : wc.cell? ⟨bi, (f * M + c) % M, none⟩ = some (.string inputs[c]) := by rw [hmod]; exact hM.tal.ins.cell hic
    obtain ⟨N, hNc⟩ : ∃ N, cntV rec[f * M + c] inputs[c] (P == E) (voidAt vo (f * M + c)) = N := ⟨_, rfl⟩
    have hNb : 0 ≤ N ∧ N ≤ 1 := by rw [← hNc]; exact cntV_bounds _ _ _ _
    have C37 : Hid (∀ (W : World), Below wc.heap.size wc W → Calls Try.prog 37 #[.pointer (some ⟨T, 0, none⟩), .int .i64 ((f : Int) * (M : Int) + (c : Int)), .bool (P == E)] W fun e w' => e = .returned (.int .i64 N) ∧ ∃ q, w' = W.drewN q) := fun W hW => by
      have := counts_any T (f * M + c) ((f : Int) * (M : Int) + (c : Int)) (by simp) bi br n2 M n0 ac rec[f * M + c] inputs[c] (P == E) (voidAt vo (f * M + c)) _ _ _ _ _ _ _ W (by omega) hl2 (by omega) hlM (hM.tal.tal.of_block (hW.block _ hM.tal.tal.lt)) ((hW.cell hM.tal.recs.lt).trans (hM.tal.recs.cell hir)) ((hW.cell hM.tal.ins.lt).trans hin) (.inr ⟨bv, n2, rfl, by omega, (hW.cell hM.void.lt).trans hvc⟩)
      rw [hNc] at this
      exact this
    have hult := hM.tal.sup.lt
    have hvlt := hM.void.lt
    have hTl := hM.tal.tal.lt
    have hslt := hM.tal.shown.lt
    have hcI : (c : Int) < (M : Int) := by omega
    have hfI : (f : Int) < (K : Int) := by omega
    obtain ⟨a1, a2, a3, a4, a5, _⟩ := hM.tal.apart
    obtain ⟨d1, d2, d3, d4, d5, d6⟩ := hM.apart
    have k0 : ∀ q, (wc.drewN q).cell? ⟨T, 9, none⟩ = _ ∧ (wc.drewN q).cell? ⟨T, 8, none⟩ = _ ∧ (wc.drewN q).cell? ⟨bu, c, none⟩ = _ ∧ (wc.drewN q).cell? ⟨bs, f * 3, none⟩ = _ ∧ (wc.drewN q).cell? ⟨bs, f * 3 + 1, none⟩ = _ ∧ (wc.drewN q).cell? ⟨bs, f * 3 + 2, none⟩ = _ := fun _ => ⟨h9, h8, hsc, y0, y1, y2⟩
    have HM := hide hM
    have HS := hide hS
    have HP := hide hP
    have HE := hide hE
    have HNc := hide hNc
    have HK0 := hide k0
    clear hM hn2 hxl hil hrl hsl hiA hiB hs0 hvl hS hP hE hR hvd hmod hin hNc hcmp h0 h2 h6 h7f xA xB hrc k0
    go_wp2
    go_region_with (first | (go_at_call 36; refine (agrees_any _ _ _ _).mono ?_; rintro e w1 ⟨rfl, hb1, hs1⟩; have k1 := rKeep (f := f) (c := c) (bu := bu) hb1 (HK0.out 1); obtain ⟨j1, j2, j3, j4, j5, j6⟩ := k1; have hf1 : w1.frozen? ⟨bu, c, none⟩ = false := (hb1.frozen (p := ⟨bu, c, none⟩) hult).trans hsf; have hq7 : w1.cell? ⟨T, 7, none⟩ = some (.slice (some ⟨bv, 0, none⟩) n2 n2) := (hb1.cell (p := ⟨T, 7, none⟩) hTl).trans h7; have hqv : w1.cell? ⟨bv, f * M + c, none⟩ = some (.bool (voidAt vo (f * M + c))) := (hb1.cell (p := ⟨bv, f * M + c, none⟩) hvlt).trans hvc; have hqf : w1.frozen? ⟨bv, f * M + c, none⟩ = false := (hb1.frozen (p := ⟨bv, f * M + c, none⟩) hvlt).trans hvf) | (go_at_call 37; refine (C37.out _ ((drewN_below wc 1).trans hb1)).mono ?_; rintro e w2 ⟨rfl, q, rfl⟩))
    all_goals
      go_wp2
      refine bodyPost_end (results_none rfl _ _ _) rfl ⟨rfl, bv, ?_, hbv⟩
      exact claimed_of_mid HM.out (((drewN_below wc 1).trans hb1).trans ((drewN_below w1 q).mono hb1.size)) S N hcs hic hir HS.out (by rw [HP.out, HE.out]; exact HNc.out)
end Go.Proofs.Qxb6604777a
