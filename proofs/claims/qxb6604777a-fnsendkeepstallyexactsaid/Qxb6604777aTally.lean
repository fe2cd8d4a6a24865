/-
  A tally in memory, its fields, and the counts of its columns.
-/
import Derived.Test.Qxb6604777aCounts
import Derived.Test.Qxb6604777aMake
import Derived.Deep.DeepCutAuto
import Derived.Test.Qxb6604777aState
import Derived.Test.Qxb6604777aTake
namespace Go.Proofs.Qxb6604777a
set_option linter.unusedSimpArgs false
set_option linter.unusedVariables false
open Go.RowKit

/-- A tally in memory. -/
structure TalW (w : World) (T bx bi br bs bu n0 M K n2 : Nat) (ac : Option Addr) (v1 V : Value) (idx : List Int) (inputs rec : List ByteArray) (ps es : List Int) (rs : List ByteArray) (sup : List Int) : Prop where
  tal : TalAt w T (.slice ac M n0) v1 (.slice (some ⟨bx, 0, none⟩) n0 n0) (.slice (some ⟨bi, 0, none⟩) M M) (.slice none 0 0) (.int .i64 0) (.slice (some ⟨br, 0, none⟩) n2 n2) V (.slice (some ⟨bs, 0, none⟩) K K) (.slice (some ⟨bu, 0, none⟩) M M)
  index : Own (Value.int .i64) 3 w bx n0 idx
  ins : Own Value.string 49 w bi M inputs
  recs : Own Value.string 49 w br n2 rec
  shown : ShownAt w bs K K ps es rs
  sup : Own (Value.int .i64) 3 w bu M sup
  apart : bu ≠ T ∧ bu ≠ bx ∧ bu ≠ bi ∧ bu ≠ br ∧ bu ≠ bs ∧ T ≠ bx ∧ T ≠ bi ∧ T ≠ br ∧ T ≠ bs

/-- The sizes that the tallies of this seat have. -/
structure TalN (n0 M K n2 : Nat) (idx : List Int) (inputs rec : List ByteArray) (sup : List Int) (A B f c : Nat) : Prop where
  l0 : n0 ≤ 65536
  lM : M ≤ 65536
  lK : K ≤ 65536
  l2 : n2 ≤ 65536
  kn : n2 = K * M
  kx : idx.length = n0
  ki : inputs.length = M
  kr : rec.length = n2
  ks : sup.length = M
  fK : f < K
  cM : c < M
  kA : A < n0
  kB : B < n0
  iA : idx.getD A 0 = (f : Int)
  iB : idx.getD B 0 = (c : Int)
  room : ∀ x ∈ sup, 0 ≤ x ∧ x ≤ 65536

theorem TalW.keep {w w' : World} {T bx bi br bs bu n0 M K n2 : Nat} {ac : Option Addr} {v1 V : Value} {idx : List Int} {inputs rec : List ByteArray} {ps es : List Int} {rs : List ByteArray} {sup : List Int}
    (h : TalW w T bx bi br bs bu n0 M K n2 ac v1 V idx inputs rec ps es rs sup) (hb : Below w.heap.size w w') : TalW w' T bx bi br bs bu n0 M K n2 ac v1 V idx inputs rec ps es rs sup :=
  ⟨h.tal.of_block (hb.block _ h.tal.lt), h.index.keep hb, h.ins.keep hb, h.recs.keep hb, h.shown.of_block (hb.block _ h.shown.lt), h.sup.keep hb, h.apart⟩
theorem TalW.setSup {w : World} {T bx bi br bs bu n0 M K n2 : Nat} {ac : Option Addr} {v1 V : Value} {idx : List Int} {inputs rec : List ByteArray} {ps es : List Int} {rs : List ByteArray} {sup : List Int}
    (h : TalW w T bx bi br bs bu n0 M K n2 ac v1 V idx inputs rec ps es rs sup) (c : Nat) (x : Int) : TalW (w.setCell ⟨bu, c, none⟩ (.int .i64 x)) T bx bi br bs bu n0 M K n2 ac v1 V idx inputs rec ps es rs (sup.set c x) := by
  obtain ⟨h1, h2, h3, h4, h5, _⟩ := h.apart
  exact ⟨h.tal.of_block (Below.heap_setCell _ _ _ _ (fun e => h1 e.symm)), h.index.other (fun e => h2 e.symm) _, h.ins.other (fun e => h3 e.symm) _, h.recs.other (fun e => h4 e.symm) _, h.shown.of_block (Below.heap_setCell _ _ _ _ (fun e => h5 e.symm)), h.sup.set c x, h.apart⟩
theorem drewN_below (w : World) (q : Nat) : Below w.heap.size w (w.drewN q) := ⟨rfl, rfl, rfl, Nat.le_refl _, fun _ _ => rfl⟩

theorem cntV_bounds (r x : ByteArray) (ag vd : Bool) : 0 ≤ cntV r x ag vd ∧ cntV r x ag vd ≤ 1 := by unfold cntV; split <;> omega

theorem mul_le_room {f K M n2 : Nat} (hn2 : n2 = K * M) (hf : f < K) : f * M + M ≤ n2 := by
  subst hn2
  have : (f + 1) * M ≤ K * M := Nat.mul_le_mul_right M hf
  rw [Nat.add_mul] at this
  omega

theorem getD_int (l : List Int) (i : Nat) (h : i < l.length) : l[i] = l.getD i 0 := by rw [List.getD_eq_getElem?_getD, List.getElem?_eq_getElem h]; rfl

/-- Two counts whose predicates part at one place. -/
theorem count_one (p p' : Nat → Bool) (f : Nat) (hne : ∀ x, x ≠ f → p' x = p x) : ∀ K, f < K → (List.range K).countP p' + (if p f then 1 else 0) = (List.range K).countP p + (if p' f then 1 else 0)
  | 0, h => by omega
  | K + 1, h => by
    rw [List.range_succ, List.countP_append, List.countP_append, List.countP_singleton, List.countP_singleton]
    by_cases e : f = K
    · subst e
      have : (List.range f).countP p' = (List.range f).countP p := by
        apply List.countP_congr
        intro x hx
        rw [List.mem_range] at hx
        rw [hne x (by omega)]
      rw [this]
      omega
    · have := count_one p p' f hne K (by omega)
      rw [hne K (fun h => e h.symm)]
      omega
theorem count_same (p p' : Nat → Bool) (K : Nat) (h : ∀ x, x < K → p' x = p x) : (List.range K).countP p' = (List.range K).countP p := by
  apply List.countP_congr
  intro x hx
  rw [List.mem_range] at hx
  rw [h x hx]

theorem index_inj {M f g f' g' : Nat} (hg : g < M) (hg' : g' < M) (h : f * M + g = f' * M + g') : f = f' ∧ g = g' := by
  have h1 : (f * M + g) / M = f := by rw [Nat.add_comm, Nat.add_mul_div_right _ _ (by omega), Nat.div_eq_of_lt hg]; omega
  have h2 : (f' * M + g') / M = f' := by rw [Nat.add_comm, Nat.add_mul_div_right _ _ (by omega), Nat.div_eq_of_lt hg']; omega
  have h3 : (f * M + g) % M = g := by rw [Nat.mul_comm, Nat.mul_add_mod]; exact Nat.mod_eq_of_lt hg
  have h4 : (f' * M + g') % M = g' := by rw [Nat.mul_comm, Nat.mul_add_mod]; exact Nat.mod_eq_of_lt hg'
  rw [h] at h1 h3
  exact ⟨h1.symm.trans h2, h3.symm.trans h4⟩

/-- counts is what the state's own count says, where the input is not empty. -/
theorem cntB_contr (M : Nat) (inputs rec : List ByteArray) (vo : Option (List Bool)) (f g : Nat) (hin : nem (inputs.getD g emptyS) = true) :
    cntB (rec.getD (f * M + g) emptyS) (inputs.getD g emptyS) (agrC (colAt rec (f * M) M)) (voidAt vo (f * M + g)) = contr M inputs rec vo f g := by
  unfold cntB contr voidsV
  by_cases he : ((rec.getD (f * M + g) emptyS).toList == (inputs.getD g emptyS).toList) = true
  · have hn : nem (rec.getD (f * M + g) emptyS) = true := by
      have : (rec.getD (f * M + g) emptyS).toList = (inputs.getD g emptyS).toList := by simpa using he
      unfold nem at hin ⊢
      rw [this]
      exact hin
    rw [he, hn]
    cases agrC (colAt rec (f * M) M) <;> cases voidAt vo (f * M + g) <;> rfl
  · have he' : ((rec.getD (f * M + g) emptyS).toList == (inputs.getD g emptyS).toList) = false := by simpa using he
    rw [he']
    simp

theorem presL_at (M : Nat) (rec : List ByteArray) (K f : Nat) (h : f < K) : (presL M rec K).getD f 0 = (presC (colAt rec (f * M) M) : Int) := by simp [presL, h]
theorem eqL_at (M : Nat) (rec : List ByteArray) (K f : Nat) (h : f < K) : (eqL M rec K).getD f 0 = (eqC (colAt rec (f * M) M) : Int) := by simp [eqL, h]
theorem agree_at (M : Nat) (rec : List ByteArray) (K f : Nat) (h : f < K) : ((presL M rec K).getD f 0 == (eqL M rec K).getD f 0) = agrC (colAt rec (f * M) M) := by
  rw [presL_at M rec K f h, eqL_at M rec K f h, ← agree_iff]
  rw [Bool.eq_iff_iff, beq_iff_eq, beq_iff_eq]
  omega
theorem supL_at (M : Nat) (inputs rec : List ByteArray) (vo : Option (List Bool)) (K g : Nat) (h : g < M) : (supL M inputs rec vo K).getD g 0 = (supN M inputs rec vo K g : Int) := by simp [supL, h]

/-- A tally's fields, as plain data in memory. -/
structure FieldsAt (w : World) (a0 a1 a2 a3 a4 a5 a6 a7 a8 a9 : Option Addr) (m5 : Nat) (mask : List Bool) (n0 M K n2 : Nat) (inputs rec : List ByteArray) (vo : Option (List Bool)) (ps es : List Int) (rs : List ByteArray) (sup : List Int) : Prop where
  corr : Reads (Value.int .i64) w a0 (corrK mask n0)
  faul : Reads (Value.int .i64) w a1 (faulK mask n0)
  idx : Reads (Value.int .i64) w a2 (idxK mask n0)
  ins : Reads Value.string w a3 inputs
  recs : Reads Value.string w a4 rec
  void : (a5 = none ∧ vo = none ∧ m5 = 0) ∨ ∃ p vs, a5 = some p ∧ vo = some vs ∧ m5 = n2 ∧ vs.length = n2 ∧ Reads Value.bool w (some p) vs
  pres : Reads (Value.int .i64) w a6 ps
  eqs : Reads (Value.int .i64) w a7 es
  refs : Reads Value.string w a8 rs
  sups : Reads (Value.int .i64) w a9 sup

theorem bKeep {B : Nat} {v0 v1 v2 v3 v4 v5 v6 v7 v8 v9 : Value} {W w' : World} (hb : Below W.heap.size W w')
    (h : W.cell? ⟨B, 0, none⟩ = some v0 ∧ W.cell? ⟨B, 1, none⟩ = some v1 ∧ W.cell? ⟨B, 2, none⟩ = some v2 ∧ W.cell? ⟨B, 3, none⟩ = some v3 ∧ W.cell? ⟨B, 4, none⟩ = some v4 ∧ W.cell? ⟨B, 5, none⟩ = some v5 ∧ W.cell? ⟨B, 6, none⟩ = some v6 ∧ W.cell? ⟨B, 7, none⟩ = some v7 ∧ W.cell? ⟨B, 8, none⟩ = some v8 ∧ W.cell? ⟨B, 9, none⟩ = some v9) :
    w'.cell? ⟨B, 0, none⟩ = some v0 ∧ w'.cell? ⟨B, 1, none⟩ = some v1 ∧ w'.cell? ⟨B, 2, none⟩ = some v2 ∧ w'.cell? ⟨B, 3, none⟩ = some v3 ∧ w'.cell? ⟨B, 4, none⟩ = some v4 ∧ w'.cell? ⟨B, 5, none⟩ = some v5 ∧ w'.cell? ⟨B, 6, none⟩ = some v6 ∧ w'.cell? ⟨B, 7, none⟩ = some v7 ∧ w'.cell? ⟨B, 8, none⟩ = some v8 ∧ w'.cell? ⟨B, 9, none⟩ = some v9 := by
  obtain ⟨h0, h1, h2, h3, h4, h5, h6, h7, h8, h9⟩ := h
  exact ⟨(hb.cell (lt_of_cell h0)).trans h0, (hb.cell (lt_of_cell h1)).trans h1, (hb.cell (lt_of_cell h2)).trans h2, (hb.cell (lt_of_cell h3)).trans h3, (hb.cell (lt_of_cell h4)).trans h4, (hb.cell (lt_of_cell h5)).trans h5, (hb.cell (lt_of_cell h6)).trans h6, (hb.cell (lt_of_cell h7)).trans h7, (hb.cell (lt_of_cell h8)).trans h8, (hb.cell (lt_of_cell h9)).trans h9⟩

theorem FieldsAt.keep {w w' : World} {a0 a1 a2 a3 a4 a5 a6 a7 a8 a9 : Option Addr} {m5 : Nat} {mask : List Bool} {n0 M K n2 : Nat} {inputs rec : List ByteArray} {vo : Option (List Bool)} {ps es : List Int} {rs : List ByteArray} {sup : List Int}
    (h : FieldsAt w a0 a1 a2 a3 a4 a5 a6 a7 a8 a9 m5 mask n0 M K n2 inputs rec vo ps es rs sup) (hb : Below w.heap.size w w') : FieldsAt w' a0 a1 a2 a3 a4 a5 a6 a7 a8 a9 m5 mask n0 M K n2 inputs rec vo ps es rs sup := by
  refine ⟨h.corr.keep hb, h.faul.keep hb, h.idx.keep hb, h.ins.keep hb, h.recs.keep hb, ?_, h.pres.keep hb, h.eqs.keep hb, h.refs.keep hb, h.sups.keep hb⟩
  rcases h.void with h | ⟨p, vs, h1, h2, h3, h4, h5⟩
  · exact .inl h
  · exact .inr ⟨p, vs, h1, h2, h3, h4, h5.keep hb⟩
end Go.Proofs.Qxb6604777a
