/-
  Rows that came in; copies of them; what ZZList hands back, in one law for both kinds of subset; the three rows that a law makes.
-/
import Derived.Test.Qxb6604780aZlist
import Derived.Test.Qxb6604780aSmall
namespace Go.Proofs.Qxb6604780a
set_option linter.unusedSimpArgs false
set_option linter.unusedVariables false
open Go.RowKit

/-- A slice that came in: its elements. -/
structure RowIn (f : Int → Value) (w : World) (a : Option Addr) (n : Nat) (xs : List Int) : Prop where
  len : xs.length = n
  nil : a = none → n = 0
  reads : Reads f w a xs
theorem rowIn_of (k : IntKind) (w : World) (a : Option Addr) (len cap : Nat) (zs : List Int)
    (h : (a = none ∧ len = 0 ∧ cap = 0 ∧ zs = []) ∨ ∃ x, a = some x ∧ len ≤ cap ∧ cap ≤ maxLen ∧ zs.length = cap ∧ (∀ i, i < zs.length → w.cell? (x.add i) = some (.int k (zs.getD i 0))) ∧ ∀ n ∈ zs, (Lit.int k n).wf = true) : RowIn (Value.int k) w a len (zs.take len) := by
  rcases h with ⟨rfl, rfl, rfl, rfl⟩ | ⟨x, rfl, hlc, hcm, hz, hc, _⟩
  · exact ⟨rfl, fun _ => rfl, fun i hi => by simp at hi⟩
  · refine ⟨by rw [List.length_take]; omega, fun h => (by cases h), fun i hi => ?_⟩
    rw [List.length_take] at hi
    obtain ⟨b, o, sp⟩ := x
    have hspot : sp = none := by simpa [Addr.add] using World.cell?_spot (hc 0 (by omega))
    subst hspot
    have h0 := hc i (by omega)
    rw [List.getD_eq_getElem?_getD, List.getElem?_eq_getElem (by omega), Option.getD_some] at h0
    refine ⟨b, o, rfl, ?_⟩
    rw [List.getElem_take]
    by_cases e : i = 0
    · subst e
      simpa [Addr.add] using h0
    · simpa [Addr.add, e] using h0
theorem RowIn.keep {f : Int → Value} {w w' : World} {a : Option Addr} {n : Nat} {xs : List Int} (h : RowIn f w a n xs) (hb : Below w.heap.size w w') : RowIn f w' a n xs := ⟨h.len, h.nil, h.reads.keep hb⟩

/-- A copy. -/
def CopyGot (f : Int → Value) (w w' : World) (e : Ending) (a : Option Addr) (n : Nat) (xs : List Int) : Prop :=
  ∃ a', e = .returned (.slice a' n n) ∧ (a' = none ↔ a = none) ∧ RowIn f w' a' n xs ∧ Below w.heap.size w w'
theorem copyInts_any (a : Option Addr) (cap n : Nat) (xs : List Int) (w : World) (hl : n ≤ 1048576) (h : RowIn (Value.int .i64) w a n xs) : Calls Try.prog 10 #[.slice a n cap] w fun e w' => CopyGot (Value.int .i64) w w' e a n xs := by
  cases a with
  | none =>
    have h0 := h.nil rfl
    subst h0
    refine (copyInts_none 0 cap w).mono ?_
    rintro e w' ⟨rfl, rfl⟩
    exact ⟨none, rfl, Iff.rfl, h, Below.refl _ _⟩
  | some p =>
    refine (copyInts_some p cap n xs w hl h.len h.reads).mono ?_
    rintro e w' ⟨rfl, ho, hb, _⟩
    exact ⟨_, rfl, ⟨fun h => (by cases h), fun h => (by cases h)⟩, ⟨h.len, fun h => (by cases h), ho.reads⟩, hb⟩
theorem copyU8_any (a : Option Addr) (cap n : Nat) (xs : List Int) (w : World) (hl : n ≤ 1048576) (h : RowIn (Value.int .u8) w a n xs) : Calls Try.prog 11 #[.slice a n cap] w fun e w' => CopyGot (Value.int .u8) w w' e a n xs := by
  cases a with
  | none =>
    have h0 := h.nil rfl
    subst h0
    refine (copyU8_none 0 cap w).mono ?_
    rintro e w' ⟨rfl, rfl⟩
    exact ⟨none, rfl, Iff.rfl, h, Below.refl _ _⟩
  | some p =>
    refine (copyU8_some p cap n xs w hl h.len h.reads).mono ?_
    rintro e w' ⟨rfl, ho, hb, _⟩
    exact ⟨_, rfl, ⟨fun h => (by cases h), fun h => (by cases h)⟩, ⟨h.len, fun h => (by cases h), ho.reads⟩, hb⟩

/-- The datacenters that the ring is taken to span. -/
def spanOf (a5 : Option Addr) (sDC : Int) (M : Nat) : Int := if a5.isSome = true then sDC else M

theorem zlist_any (w0 w : World) (R : Nat) (vn vm : Value) (bd : Nat) (dc : List Int) (bp : Nat) (pts : List Int) (ak : Option Addr) (pks : List Int) (pf : Bool) (wk : Nat) (pick n count sDC : Int) (kc kb hb N M : Nat) (a5 : Option Addr) (n5 : Nat) (ofs : List Int)
    (hG : ∀ K : Blks, K.B = w0.heap.size → K.N = N → K.M = M → Ground w0 K R vn vm bd dc bp pts ak pks pf) (hwk : wk < pts.length) (hpk : 0 < pks.length → 0 ≤ pick ∧ pick < pks.length)
    (hN : N ≤ 32768) (h5 : RowIn (Value.int .u8) w0 a5 n5 ofs) (h5N : a5 ≠ none → n5 = N) (h3 : Three w0 w kc kb hb N M) :
    Calls Try.prog 13 #[.pointer (some ⟨R, 0, none⟩), .int .i64 (wk : Int), .int .i64 pick, .int .i64 n, .int .i64 count, .slice a5 n5 n5, .int .i64 sDC, .slice (some ⟨kc, 0, none⟩) 0 0, .slice (some ⟨kb, 0, none⟩) N N, .slice (some ⟨hb, 0, none⟩) M M] w fun e w' =>
      ZGot w0 kb hb N M a5.isSome (listed dc pts pks (ak.isSome && decide (1 < spanOf a5 sDC M)) pf (spanOf a5 sDC M) n count wk pick.toNat (start N M ofs)).done e w' := by
  cases a5 with
  | none =>
    have e0 := h5.nil rfl
    subst e0
    have e1 : ofs = [] := List.eq_nil_of_length_eq_zero h5.len
    subst e1
    exact zlist_none w0 w R vn vm bd dc bp pts ak pks pf wk pick n count sDC kc kb hb N M hG h3 hwk hpk
  | some p =>
    have e0 := h5N (by simp)
    subst e0
    exact zlist_some w0 w R vn vm bd dc bp pts ak pks pf wk pick n count sDC kc kb hb n5 M p ofs n5 hG h3 hwk hpk hN h5.len h5.reads

/-- The three rows, in whatever order they are made. -/
theorem three_of {w0 W : World} {kc kb hb N M : Nat} (hb' : Below w0.heap.size w0 W) (lc : w0.heap.size ≤ kc) (lk : w0.heap.size ≤ kb) (lh : w0.heap.size ≤ hb) (n1 : kc ≠ kb) (n2 : kc ≠ hb) (n3 : kb ≠ hb)
    (rc : W.heap[kc]? = some (.cells (madeCells #[.int .i64 0] 0) 3)) (rk : W.heap[kb]? = some (.cells (madeCells #[.bool false] N) 4)) (rh : W.heap[hb]? = some (.cells (madeCells #[.bool false] M) 4)) : Three w0 W kc kb hb N M := by
  have hm := fun n => Own.made (f := Value.bool) (default : World) false n 4 (.bool false) rfl
  have e : ∀ n, (((default : World).alloc (.cells (madeCells #[.bool false] n) 4)).heap)[(default : World).heap.size]? = some (.cells (madeCells #[.bool false] n) 4) := fun n => heap_alloc_new _ _
  have mv : ∀ (n b : Nat), W.heap[b]? = some (.cells (madeCells #[.bool false] n) 4) → Own Value.bool 4 W b n (List.replicate n false) := by
    intro n b h
    obtain ⟨c, hc, r⟩ := hm n
    rw [e n] at hc
    injection hc with hc
    injection hc with h1 h2 h3
    subst h1
    exact ⟨_, h, r⟩
  exact ⟨hb', lc, lk, lh, n1, n2, n3, by rw [rc, Array.size_eq_zero_iff.1 (size_madeCells #[.int .i64 0] 0)], mv N kb rk, mv M hb rh⟩
theorem alloc3_0 (w : World) (X Y Z : Obj) : (((w.alloc X).alloc Y).alloc Z).drew.heap[w.heap.size]? = some X := by
  show (((w.alloc X).alloc Y).alloc Z).heap[w.heap.size]? = some X
  rw [Below.heap_alloc _ _ _ (by simp; omega), Below.heap_alloc _ _ _ (by simp)]
  exact heap_alloc_new _ _
theorem alloc3_1 (w : World) (X Y Z : Obj) : (((w.alloc X).alloc Y).alloc Z).drew.heap[w.heap.size + 1]? = some Y := by
  show (((w.alloc X).alloc Y).alloc Z).heap[w.heap.size + 1]? = some Y
  rw [Below.heap_alloc _ _ _ (by simp)]
  simpa using heap_alloc_new (w.alloc X) Y
theorem alloc3_2 (w : World) (X Y Z : Obj) : (((w.alloc X).alloc Y).alloc Z).drew.heap[w.heap.size + 1 + 1]? = some Z := by
  show (((w.alloc X).alloc Y).alloc Z).heap[w.heap.size + 1 + 1]? = some Z
  simpa using heap_alloc_new ((w.alloc X).alloc Y) Z
theorem alloc3_below (w : World) (X Y Z : Obj) : Below w.heap.size w (((w.alloc X).alloc Y).alloc Z).drew :=
  (((((Below.refl _ _).alloc (Nat.le_refl _) X).alloc (by simp) Y).alloc (by simp; omega) Z).drew)
#print axioms zlist_any
#print axioms three_of
end Go.Proofs.Qxb6604780a
