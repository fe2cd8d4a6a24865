/-
  The walk of show: a summary of a column, moved by one entry.
-/
import Derived.Test.Qxb6604777aMake
import Derived.Test.Qxb6604777aCounts
namespace Go.Proofs.Qxb6604777a
set_option linter.unusedSimpArgs false
set_option linter.unusedVariables false
open Go.RowKit

/-- The summary behind a move, as plain functions. -/
def shP1 (p : Int) (old : ByteArray) : Int := if nem old then p - 1 else p
def shE1 (e : Int) (r old : ByteArray) : Int := if nem old && old.toList == r.toList then e - 1 else e
def shR (p : Int) (r old v : ByteArray) : ByteArray := if nem v && shP1 p old == 0 then v else r
def shP (p : Int) (old v : ByteArray) : Int := if nem v then shP1 p old + 1 else shP1 p old
def shE (p e : Int) (r old v : ByteArray) : Int := if nem v && v.toList == (shR p r old v).toList then shE1 e r old + 1 else shE1 e r old

/-- Summary f reads P, E, R; the rest as it was; nothing else was written. -/
structure Sh (w w' : World) (b K f : Nat) (ps es : List Int) (rs : List ByteArray) (P E : Int) (R : ByteArray) : Prop where
  shown : ShownAt w' b K K (ps.set f P) (es.set f E) (rs.set f R)
  other : ∀ k, k ≠ b → w'.heap[k]? = w.heap[k]?
  size : w'.heap.size = w.heap.size
  low : ∀ A (x : World), A ≤ b → Below A x w → Below A x w'

section
variable {w w' : World} {b K f : Nat} {ps es : List Int} {rs : List ByteArray} {P E P' E' : Int} {R R' : ByteArray}
theorem getD_set_same {α : Type} (l : List α) (f : Nat) (h : f < l.length) (x d : α) : (l.set f x).getD f d = x := by
  rw [List.getD_eq_getElem?_getD, List.getElem?_set_self h]; rfl
theorem getD_set_ne {α : Type} (l : List α) (f g : Nat) (h : g ≠ f) (x d : α) : (l.set f x).getD g d = l.getD g d := by
  rw [List.getD_eq_getElem?_getD, List.getD_eq_getElem?_getD, List.getElem?_set_ne (fun e => h e.symm)]
theorem set_getD {α : Type} (l : List α) (f : Nat) (h : f < l.length) (d : α) : l.set f (l.getD f d) = l := by
  apply List.ext_getElem
  · simp
  · intro i h1 h2
    rw [List.getElem_set]
    split
    · rename_i e; subst e; rw [List.getD_eq_getElem?_getD, List.getElem?_eq_getElem h]; rfl
    · rfl
theorem Sh.start (h : ShownAt w b K K ps es rs) (hf : f < K) (h1 : ps.length = K) (h2 : es.length = K) (h3 : rs.length = K) : Sh w w b K f ps es rs (ps.getD f 0) (es.getD f 0) (rs.getD f emptyS) :=
  ⟨by rw [set_getD ps f (by omega), set_getD es f (by omega), set_getD rs f (by omega)]; exact h, fun _ _ => rfl, rfl, fun _ _ _ h => h⟩
theorem Sh.put0 (hf : f < K) (h1 : ps.length = K) (h : Sh w w' b K f ps es rs P E R) : Sh w (w'.setCell ⟨b, f * 3, none⟩ (.int .i64 P')) b K f ps es rs P' E R := by
  refine ⟨⟨row_set h.shown.row _ _, fun g hg => ?_, fun g hg => ?_, fun g hg => ?_⟩, fun k hk => (Below.heap_setCell _ _ _ _ hk).trans (h.other k hk), by simpa using h.size, fun A x hA hx => (h.low A x hA hx).setCell (by exact hA) _⟩
  · by_cases e : g = f
    · subst e; rw [cell_set_same h.shown.row (by omega), getD_set_same _ _ (by omega)]
    · rw [cell_set_far (by omega), getD_set_ne _ _ _ e, h.shown.p g hg, getD_set_ne _ _ _ e]
  · rw [cell_set_far (by omega)]; exact h.shown.e g hg
  · rw [cell_set_far (by omega)]; exact h.shown.r g hg
theorem Sh.put1 (hf : f < K) (h1 : es.length = K) (h : Sh w w' b K f ps es rs P E R) : Sh w (w'.setCell ⟨b, f * 3 + 1, none⟩ (.int .i64 E')) b K f ps es rs P E' R := by
  refine ⟨⟨row_set h.shown.row _ _, fun g hg => ?_, fun g hg => ?_, fun g hg => ?_⟩, fun k hk => (Below.heap_setCell _ _ _ _ hk).trans (h.other k hk), by simpa using h.size, fun A x hA hx => (h.low A x hA hx).setCell (by exact hA) _⟩
  · rw [cell_set_far (by omega)]; exact h.shown.p g hg
  · by_cases e : g = f
    · subst e; rw [cell_set_same h.shown.row (by omega), getD_set_same _ _ (by omega)]
    · rw [cell_set_far (by omega), getD_set_ne _ _ _ e, h.shown.e g hg, getD_set_ne _ _ _ e]
  · rw [cell_set_far (by omega)]; exact h.shown.r g hg
theorem Sh.put2 (hf : f < K) (h1 : rs.length = K) (h : Sh w w' b K f ps es rs P E R) : Sh w (w'.setCell ⟨b, f * 3 + 2, none⟩ (.string R')) b K f ps es rs P E R' := by
  refine ⟨⟨row_set h.shown.row _ _, fun g hg => ?_, fun g hg => ?_, fun g hg => ?_⟩, fun k hk => (Below.heap_setCell _ _ _ _ hk).trans (h.other k hk), by simpa using h.size, fun A x hA hx => (h.low A x hA hx).setCell (by exact hA) _⟩
  · rw [cell_set_far (by omega)]; exact h.shown.p g hg
  · rw [cell_set_far (by omega)]; exact h.shown.e g hg
  · by_cases e : g = f
    · subst e; rw [cell_set_same h.shown.row (by omega), getD_set_same _ _ (by omega)]
    · rw [cell_set_far (by omega), getD_set_ne _ _ _ e, h.shown.r g hg, getD_set_ne _ _ _ e]
theorem Sh.into (h : Sh w w' b K f ps es rs P E R) (e1 : P = P') (e2 : E = E') (e3 : R = R') : Sh w w' b K f ps es rs P' E' R' := by
  subst e1 e2 e3; exact h
end

set_option maxHeartbeats 2000000 in
theorem show_any (T bs K f : Nat) (P E : Int) (R old v : ByteArray) (v0 v1 v2 v3 v4 v5 v6 v7 v9 : Value) (ps es : List Int) (rs : List ByteArray) (w : World) (hf : f < K) (hK : K ≤ 65536)
    (hT : TalAt w T v0 v1 v2 v3 v4 v5 v6 v7 (.slice (some ⟨bs, 0, none⟩) K K) v9) (hS : ShownAt w bs K K ps es rs) (h1 : ps.length = K) (h2 : es.length = K) (h3 : rs.length = K)
    (hP : ps.getD f 0 = P) (hE : es.getD f 0 = E) (hR : rs.getD f emptyS = R) (hPb : 0 ≤ P ∧ P ≤ 65536) (hEb : 0 ≤ E ∧ E ≤ 65536) :
    Calls Try.prog 33 #[.pointer (some ⟨T, 0, none⟩), .int .i64 f, .string old, .string v] w fun e w' => e = .returned (.tuple #[]) ∧ Sh w w' bs K f ps es rs (shP P old v) (shE P E R old v) (shR P R old v) := by
  have h8 := hT.c8
  have y0 : w.cell? ⟨bs, f * 3, none⟩ = some (.int .i64 P) := by rw [← hP]; exact hS.p f hf
  have y1 : w.cell? ⟨bs, f * 3 + 1, none⟩ = some (.int .i64 E) := by rw [← hE]; exact hS.e f hf
  have y2 : w.cell? ⟨bs, f * 3 + 2, none⟩ = some (.string R) := by rw [← hR]; exact hS.r f hf
  have z0 := hS.frozen (f * 3)
  have z1 := hS.frozen (f * 3 + 1)
  have z2 := hS.frozen (f * 3 + 2)
  have S0 : Hid (Sh w w bs K f ps es rs P E R) := by
    have := Sh.start (f := f) hS hf h1 h2 h3
    rw [hP, hE, hR] at this
    exact this
  have H1 := hide h1
  have H2 := hide h2
  have H3 := hide h3
  have hfI : (f : Int) < (K : Int) := by omega
  clear hT hS hP hE hR h1 h2 h3
  go_enter Try.func33, Try.ntmps33
  by_cases ho : old.toList.isEmpty = true
  · have n1 : nem old = false := nem_false ho
    by_cases hv : v.toList.isEmpty = true
    · have n2 : nem v = false := nem_false hv
      go_wp2
      refine bodyPost_end (results_none rfl _ _ _) rfl ⟨rfl, ?_⟩
      apply Sh.into
      case h => repeat first | with_reducible exact S0.out | with_reducible apply Sh.put0 hf H1.out | with_reducible apply Sh.put1 hf H2.out | with_reducible apply Sh.put2 hf H3.out
      all_goals simp [shP, shP1, shE, shE1, shR, n1, n2]
    · have hv' : v.toList.isEmpty = false := by simpa using hv
      have n2 : nem v = true := nem_true hv'
      by_cases hz : (P == 0) = true
      · have hz0 : P = 0 := by simpa using hz
        go_wp2
        refine bodyPost_end (results_none rfl _ _ _) rfl ⟨rfl, ?_⟩
        apply Sh.into
        case h => repeat first | with_reducible exact S0.out | with_reducible apply Sh.put0 hf H1.out | with_reducible apply Sh.put1 hf H2.out | with_reducible apply Sh.put2 hf H3.out
        all_goals simp [shP, shP1, shE, shE1, shR, n1, n2, hz0]
      · have hz' : (P == 0) = false := by simpa using hz
        by_cases hr : (v.toList == R.toList) = true
        · skip
          go_wp2
          refine bodyPost_end (results_none rfl _ _ _) rfl ⟨rfl, ?_⟩
          apply Sh.into
          case h => repeat first | with_reducible exact S0.out | with_reducible apply Sh.put0 hf H1.out | with_reducible apply Sh.put1 hf H2.out | with_reducible apply Sh.put2 hf H3.out
          all_goals simp [shP, shP1, shE, shE1, shR, n1, n2, hz', hr]
        · have hr' : (v.toList == R.toList) = false := by simpa using hr
          go_wp2
          refine bodyPost_end (results_none rfl _ _ _) rfl ⟨rfl, ?_⟩
          apply Sh.into
          case h => repeat first | with_reducible exact S0.out | with_reducible apply Sh.put0 hf H1.out | with_reducible apply Sh.put1 hf H2.out | with_reducible apply Sh.put2 hf H3.out
          all_goals simp [shP, shP1, shE, shE1, shR, n1, n2, hz', hr']
  · have ho' : old.toList.isEmpty = false := by simpa using ho
    have n1 : nem old = true := nem_true ho'
    by_cases hq : (old.toList == R.toList) = true
    · skip
      by_cases hv : v.toList.isEmpty = true
      · have n2 : nem v = false := nem_false hv
        go_wp2
        refine bodyPost_end (results_none rfl _ _ _) rfl ⟨rfl, ?_⟩
        apply Sh.into
        case h => repeat first | with_reducible exact S0.out | with_reducible apply Sh.put0 hf H1.out | with_reducible apply Sh.put1 hf H2.out | with_reducible apply Sh.put2 hf H3.out
        all_goals simp [shP, shP1, shE, shE1, shR, n1, n2, hq]
      · have hv' : v.toList.isEmpty = false := by simpa using hv
        have n2 : nem v = true := nem_true hv'
        by_cases hz : (P - 1 == 0) = true
        · have hz0 : P - 1 = 0 := by simpa using hz
          go_wp2
          refine bodyPost_end (results_none rfl _ _ _) rfl ⟨rfl, ?_⟩
          apply Sh.into
          case h => repeat first | with_reducible exact S0.out | with_reducible apply Sh.put0 hf H1.out | with_reducible apply Sh.put1 hf H2.out | with_reducible apply Sh.put2 hf H3.out
          all_goals simp [shP, shP1, shE, shE1, shR, n1, n2, hq, hz0]
        · have hz' : (P - 1 == 0) = false := by simpa using hz
          by_cases hr : (v.toList == R.toList) = true
          · skip
            go_wp2
            refine bodyPost_end (results_none rfl _ _ _) rfl ⟨rfl, ?_⟩
            apply Sh.into
            case h => repeat first | with_reducible exact S0.out | with_reducible apply Sh.put0 hf H1.out | with_reducible apply Sh.put1 hf H2.out | with_reducible apply Sh.put2 hf H3.out
            all_goals simp [shP, shP1, shE, shE1, shR, n1, n2, hq, hz', hr]
          · have hr' : (v.toList == R.toList) = false := by simpa using hr
            go_wp2
            refine bodyPost_end (results_none rfl _ _ _) rfl ⟨rfl, ?_⟩
            apply Sh.into
            case h => repeat first | with_reducible exact S0.out | with_reducible apply Sh.put0 hf H1.out | with_reducible apply Sh.put1 hf H2.out | with_reducible apply Sh.put2 hf H3.out
            all_goals simp [shP, shP1, shE, shE1, shR, n1, n2, hq, hz', hr']
    · have hq' : (old.toList == R.toList) = false := by simpa using hq
      by_cases hv : v.toList.isEmpty = true
      · have n2 : nem v = false := nem_false hv
        go_wp2
        refine bodyPost_end (results_none rfl _ _ _) rfl ⟨rfl, ?_⟩
        apply Sh.into
        case h => repeat first | with_reducible exact S0.out | with_reducible apply Sh.put0 hf H1.out | with_reducible apply Sh.put1 hf H2.out | with_reducible apply Sh.put2 hf H3.out
        all_goals simp [shP, shP1, shE, shE1, shR, n1, n2, hq']
      · have hv' : v.toList.isEmpty = false := by simpa using hv
        have n2 : nem v = true := nem_true hv'
        by_cases hz : (P - 1 == 0) = true
        · have hz0 : P - 1 = 0 := by simpa using hz
          go_wp2
          refine bodyPost_end (results_none rfl _ _ _) rfl ⟨rfl, ?_⟩
          apply Sh.into
          case h => repeat first | with_reducible exact S0.out | with_reducible apply Sh.put0 hf H1.out | with_reducible apply Sh.put1 hf H2.out | with_reducible apply Sh.put2 hf H3.out
          all_goals simp [shP, shP1, shE, shE1, shR, n1, n2, hq', hz0]
        · have hz' : (P - 1 == 0) = false := by simpa using hz
          by_cases hr : (v.toList == R.toList) = true
          · skip
            go_wp2
            refine bodyPost_end (results_none rfl _ _ _) rfl ⟨rfl, ?_⟩
            apply Sh.into
            case h => repeat first | with_reducible exact S0.out | with_reducible apply Sh.put0 hf H1.out | with_reducible apply Sh.put1 hf H2.out | with_reducible apply Sh.put2 hf H3.out
            all_goals simp [shP, shP1, shE, shE1, shR, n1, n2, hq', hz', hr]
          · have hr' : (v.toList == R.toList) = false := by simpa using hr
            go_wp2
            refine bodyPost_end (results_none rfl _ _ _) rfl ⟨rfl, ?_⟩
            apply Sh.into
            case h => repeat first | with_reducible exact S0.out | with_reducible apply Sh.put0 hf H1.out | with_reducible apply Sh.put1 hf H2.out | with_reducible apply Sh.put2 hf H3.out
            all_goals simp [shP, shP1, shE, shE1, shR, n1, n2, hq', hz', hr']
end Go.Proofs.Qxb6604777a
