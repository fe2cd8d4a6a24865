/-
  Memory that a call itself makes, and slices that are read: a small vocabulary for the walks of this seat. No Go function in it.
-/
import Derived.WalkKit
import Derived.Deep.OwnRows
namespace Go.Proofs.Qxb6604780a
open Go.RowKit

theorem lt_of_cell {w : World} {a : Addr} {v : Value} (h : w.cell? a = some v) : a.block < w.heap.size := by
  unfold World.cell? at h
  split at h
  · rename_i hb
    exact (Array.getElem?_eq_some_iff.1 hb).1
  · cases h

theorem lt_of_heap {w : World} {b : Nat} {o : Obj} (h : w.heap[b]? = some o) : b < w.heap.size := (Array.getElem?_eq_some_iff.1 h).1

/-- In w the slice that begins at a reads as xs, one cell an element. -/
def Reads {α : Type} (f : α → Value) (w : World) (a : Option Addr) (xs : List α) : Prop :=
  ∀ i (h : i < xs.length), ∃ b o, a = some ⟨b, o, none⟩ ∧ w.cell? ⟨b, o + i, none⟩ = some (f xs[i])

/-- Block b of w is a row of cap cells of type t, none frozen, the first ones xs. -/
def Own {α : Type} (f : α → Value) (t : TypeId) (w : World) (b cap : Nat) (xs : List α) : Prop :=
  ∃ c : Array Value, w.heap[b]? = some (.cells c t (0, 0)) ∧ c.size = cap ∧ xs.length ≤ cap ∧ ∀ i (h : i < xs.length), c[i]? = some (f xs[i])

section
variable {α : Type} {f : α → Value} {w w' : World} {a : Option Addr} {xs : List α} {t : TypeId} {b cap : Nat}

theorem Reads.of_nil : Reads f w a [] := fun i h => by simp at h

theorem Reads.keep (h : Reads f w a xs) (hb : Below w.heap.size w w') : Reads f w' a xs := fun i hi => by
  obtain ⟨b, o, ha, hc⟩ := h i hi
  exact ⟨b, o, ha, (hb.cell (lt_of_cell hc)).trans hc⟩

theorem Reads.drew (h : Reads f w a xs) : Reads f w.drew a xs := h

/-- Only the cells' block matters. -/
theorem Reads.at (h : Reads f w a xs) {b o : Nat} (ha : a = some ⟨b, o, none⟩) {i : Nat} (hi : i < xs.length) : w.cell? ⟨b, o + i, none⟩ = some (f xs[i]) := by
  obtain ⟨b', o', ha', hc⟩ := h i hi
  rw [ha] at ha'
  cases ha'
  exact hc

namespace Own
theorem lt (h : Own f t w b cap xs) : b < w.heap.size := by
  obtain ⟨c, hb, _⟩ := h
  exact lt_of_heap hb

theorem le (h : Own f t w b cap xs) : xs.length ≤ cap := by
  obtain ⟨c, _, _, hl, _⟩ := h
  exact hl

theorem cell (h : Own f t w b cap xs) {i : Nat} (hi : i < xs.length) : w.cell? ⟨b, i, none⟩ = some (f xs[i]) := by
  obtain ⟨c, hb, hs, hl, hc⟩ := h
  simp [World.cell?, hb, hc i hi]

theorem there (h : Own f t w b cap xs) {i : Nat} (hi : i < cap) : ∃ v, w.cell? ⟨b, i, none⟩ = some v := by
  obtain ⟨c, hb, hs, hl, hc⟩ := h
  refine ⟨c[i], ?_⟩
  simp [World.cell?, hb, hs, hi]

theorem frozen (h : Own f t w b cap xs) (i : Nat) : w.frozen? ⟨b, i, none⟩ = false := by
  obtain ⟨c, hb, hs, hl, hc⟩ := h
  simp [World.frozen?, hb]

theorem reads (h : Own f t w b cap xs) : Reads f w (some ⟨b, 0, none⟩) xs := fun i hi => ⟨b, 0, rfl, by rw [Nat.zero_add]; exact h.cell hi⟩

theorem of_block (h : Own f t w b cap xs) (e : w'.heap[b]? = w.heap[b]?) : Own f t w' b cap xs := by
  obtain ⟨c, hb, hs, hl, hc⟩ := h
  exact ⟨c, e.trans hb, hs, hl, hc⟩

theorem below {B : Nat} (h : Own f t w b cap xs) (hb : Below B w w') (hlt : b < B) : Own f t w' b cap xs := h.of_block (hb.block b hlt)

theorem keep (h : Own f t w b cap xs) (hb : Below w.heap.size w w') : Own f t w' b cap xs := h.of_block (hb.block b h.lt)

theorem drew (h : Own f t w b cap xs) : Own f t w.drew b cap xs := h

theorem alloc (h : Own f t w b cap xs) (o : Obj) : Own f t (w.alloc o) b cap xs := h.of_block (Below.heap_alloc _ _ _ h.lt)

theorem other (h : Own f t w b cap xs) {p : Addr} (hp : b ≠ p.block) (v : Value) : Own f t (w.setCell p v) b cap xs := h.of_block (Below.heap_setCell _ _ _ _ hp)

theorem take (h : Own f t w b cap xs) (n : Nat) : Own f t w b cap (xs.take n) := by
  obtain ⟨c, hb, hs, hl, hc⟩ := h
  refine ⟨c, hb, hs, by rw [List.length_take]; omega, fun i hi => ?_⟩
  rw [List.getElem_take]
  exact hc i (by rw [List.length_take] at hi; omega)

/-- A store into a cell that is told of. -/
theorem set (h : Own f t w b cap xs) (i : Nat) (x : α) : Own f t (w.setCell ⟨b, i, none⟩ (f x)) b cap (xs.set i x) := by
  obtain ⟨c, hb, hs, hl, hc⟩ := h
  refine ⟨c.setIfInBounds i (f x), ?_, by simpa using hs, by simpa using hl, fun j hj => ?_⟩
  · simp [World.setCell, Array.getElem?_modify, hb]
  · rw [List.length_set] at hj
    rw [Array.getElem?_setIfInBounds, List.getElem_set]
    by_cases e : i = j
    · subst e
      rw [if_pos rfl, if_pos (by omega), if_pos rfl]
    · rw [if_neg e, if_neg e]
      exact hc j hj

/-- A store into the first cell that is not told of. -/
theorem push (h : Own f t w b cap xs) (hlt : xs.length < cap) (x : α) : Own f t (w.setCell ⟨b, xs.length, none⟩ (f x)) b cap (xs ++ [x]) := by
  obtain ⟨c, hb, hs, hl, hc⟩ := h
  refine ⟨c.setIfInBounds xs.length (f x), ?_, by simpa using hs, by simp; omega, fun j hj => ?_⟩
  · simp [World.setCell, Array.getElem?_modify, hb]
  · rw [List.length_append, List.length_singleton] at hj
    rw [Array.getElem?_setIfInBounds]
    by_cases e : xs.length = j
    · subst e
      rw [if_pos rfl, if_pos (by omega), List.getElem_concat_length rfl]
    · rw [if_neg e, List.getElem_append_left (by omega)]
      exact hc j (by omega)

/-- What 'make' lays. -/
theorem made (w : World) (z : α) (n : Nat) (t : TypeId) (v : Value) (hv : v = f z) : Own f t (w.alloc (.cells (madeCells #[v] n) t)) w.heap.size n (List.replicate n z) := by
  subst hv
  obtain ⟨c, hb, hs, hc⟩ := World.rowIs_made w (f z) n t
  exact ⟨c, hb, hs, by simp, fun i hi => by rw [List.length_replicate] at hi; rw [hc i hi, List.getElem_replicate]⟩

theorem made_none (w : World) (n : Nat) (t : TypeId) (v : Value) : Own f t (w.alloc (.cells (madeCells #[v] n) t)) w.heap.size n [] := by
  obtain ⟨c, hb, hs, hc⟩ := World.rowIs_made w v n t
  exact ⟨c, hb, hs, by simp, fun i hi => by simp at hi⟩

/-- The kit's word for a slice that the call made. -/
theorem ownsRow (h : Own f t w b cap xs) {base : Nat} (hb : base ≤ b) (hc : cap ≤ maxLen) : w.ownsRow base t 1 (.slice (some ⟨b, 0, none⟩) xs.length cap) xs.length (xs.map f) := by
  obtain ⟨c, hh, hs, hl, he⟩ := h
  refine ⟨by simp, .inr ⟨b, cap, c, rfl, hb, hh, hl, hc, by simpa using hs, ?_⟩⟩
  rw [Nat.mul_one]
  apply List.ext_getElem?
  intro i
  by_cases hi : i < xs.length
  · rw [List.getElem?_take, if_pos hi, Array.getElem?_toList, he i hi, List.getElem?_map, List.getElem?_eq_getElem hi]
    rfl
  · rw [List.getElem?_eq_none (by simp; omega), List.getElem?_eq_none (by simp; omega)]

theorem of_ownsRow {base b n cap : Nat} {ys : List α} (h : w.ownsRow base t 1 (.slice (some ⟨b, 0, none⟩) n cap) n (ys.map f)) : Own f t w b cap ys ∧ ys.length = n := by
  obtain ⟨hl, h⟩ := h
  rcases h with ⟨h, _⟩ | ⟨g, cap', cur, hv, _, hh, hn, _, hs, htake⟩
  · cases h
  · cases hv
    have hyl : ys.length = n := by simpa using hl
    refine ⟨⟨cur, hh, by simpa using hs, by omega, fun i hi => ?_⟩, hyl⟩
    rw [Nat.mul_one] at htake
    have := congrArg (·[i]?) htake
    rw [List.getElem?_take, if_pos (by omega), Array.getElem?_toList, List.getElem?_map, List.getElem?_eq_getElem hi] at this
    exact this
end Own
end

/-- A block of one cell that has just been made. -/
theorem cell_made (w : World) (v : Value) (t : TypeId) (N : Nat) (hN : N = w.heap.size) : (w.alloc (.cells #[v] t)).cell? ⟨N, 0, none⟩ = some v := by
  subst hN
  have h : (w.alloc (.cells #[v] t)).heap[w.heap.size]? = some (.cells #[v] t) := by
    show (w.heap.push _)[w.heap.size]? = _
    simp
  unfold World.cell?
  rw [h]
  rfl
theorem news_one (w : World) (v : Value) (t : TypeId) (N : Nat) (hN : N = w.heap.size) : ∀ j u, [v][j]? = some u → (w.alloc (.cells #[v] t)).cell? ((⟨N, 0, none⟩ : Addr).add j) = some u := by
  intro j u hj
  match j, hj with
  | 0, hj =>
    simp at hj
    subst hj
    exact cell_made w v t N hN
theorem one_oneCell (v : Value) (h : v.oneCell' = true) : ∀ u ∈ [v], u.oneCell' = true := by
  intro u hu
  simp at hu
  subst hu
  exact h

/-- Values stored one behind the other into block b, from cell i on. -/
def putRow (w : World) (b : Nat) : Nat → List Value → World
  | _, [] => w
  | i, v :: vs => putRow (w.setCell ⟨b, i, none⟩ v) b (i + 1) vs

theorem putRow_other (b k : Nat) (hk : k ≠ b) : ∀ (vs : List Value) (i : Nat) (w : World), (putRow w b i vs).heap[k]? = w.heap[k]?
  | [], _, _ => rfl
  | v :: vs, i, w => by
    rw [putRow, putRow_other b k hk vs (i + 1) _]
    exact Below.heap_setCell _ _ _ _ hk
theorem putRow_size (b : Nat) : ∀ (vs : List Value) (i : Nat) (w : World), (putRow w b i vs).heap.size = w.heap.size
  | [], _, _ => rfl
  | v :: vs, i, w => by
    rw [putRow, putRow_size b vs (i + 1) _]
    simp
theorem putRow_below {B : Nat} (b : Nat) (hb : B ≤ b) : ∀ (vs : List Value) (i : Nat) (w a : World), Below B a w → Below B a (putRow w b i vs)
  | [], _, _, _, h => h
  | v :: vs, i, w, a, h => putRow_below b hb vs (i + 1) _ a (h.setCell (by exact hb) v)
theorem putRow_block (b : Nat) (t : TypeId) : ∀ (vs : List Value) (i : Nat) (w : World) (pre post : List Value), pre.length = i → post.length = vs.length → w.heap[b]? = some (.cells (pre ++ post).toArray t (0, 0)) →
    (putRow w b i vs).heap[b]? = some (.cells (pre ++ vs).toArray t (0, 0))
  | [], i, w, pre, post, hp, hq, h => by
    obtain rfl : post = [] := by simpa using hq
    exact h
  | v :: vs, i, w, pre, post, hp, hq, h => by
    match post, hq with
    | x :: post, hq =>
      have h1 : (w.setCell ⟨b, i, none⟩ v).heap[b]? = some (.cells ((pre ++ [v]) ++ post).toArray t (0, 0)) := by
        simp only [World.setCell, Array.getElem?_modify, h]
        subst hp
        simp
      have h2 := putRow_block b t vs (i + 1) (w.setCell ⟨b, i, none⟩ v) (pre ++ [v]) post (by simp [hp]) (by simpa using hq) h1
      rw [putRow, h2]
      simp

#print axioms putRow_block
#print axioms Own.push
#print axioms Own.of_ownsRow
end Go.Proofs.Qxb6604780a
