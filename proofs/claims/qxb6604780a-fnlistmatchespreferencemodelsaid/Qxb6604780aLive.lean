/-
  The memory that list works on: the flags, the boxes of its captured variables, the rows that it appends to, the subset. One law for each thing that is done to it.
-/
import Derived.Test.Qxb6604780aPlain
import Derived.Deep.AppendLies
import Derived.Laws.OwnMore
namespace Go.Proofs.Qxb6604780a
set_option linter.unusedVariables false
open Go.RowKit

theorem ownsRow_of_block {w w' : World} {base : Nat} {e : TypeId} {size : Nat} {v : Value} {n : Nat} {xs : List Value} (h : w.ownsRow base e size v n xs) (hb : ∀ g, v.ownBlock = some g → w'.heap[g]? = w.heap[g]?) : w'.ownsRow base e size v n xs := by
  obtain ⟨hl, h⟩ := h
  refine ⟨hl, ?_⟩
  rcases h with h | ⟨g, cap, cur, rfl, hbase, hg, rest⟩
  · exact .inl h
  · exact .inr ⟨g, cap, cur, rfl, hbase, (hb g rfl).trans hg, rest⟩

/-- The blocks that list works on. -/
structure Blks where
  B : Nat
  kb : Nat
  hb : Nat
  cb : Nat
  tb : Nat
  N : Nat
  M : Nat
  sub : Option (Nat × Nat)
  sDC : Int

def subBlocks : Option (Nat × Nat) → List Nat
  | none => []
  | some (s, o) => [s, o]
def Blks.fixed (K : Blks) : List Nat := [K.kb, K.hb, K.cb, K.tb] ++ subBlocks K.sub

structure LiveAt (K : Blks) (w : World) (S : LS) (v vc : Value) : Prop where
  nodup : K.fixed.Nodup
  low : ∀ g ∈ K.fixed, K.B ≤ g
  kt : Own Value.bool 4 w K.kb K.N S.taken
  ktl : S.taken.length = K.N
  kh : Own Value.bool 4 w K.hb K.M S.held
  khl : S.held.length = K.M
  kc : w.heap[K.cb]? = some (.cells #[v] 22 (0, 0))
  kx : w.heap[K.tb]? = some (.cells #[.slice (some ⟨K.kb, 0, none⟩) K.N K.N] 30 (0, 0))
  kv : w.ownsRow K.B 3 1 v S.chosen.length (S.chosen.map (Value.int .i64))
  kvf : ∀ g, v.ownBlock = some g → g ∉ K.fixed
  kn : K.sub = none → S.ofs = [] ∧ S.cons = []
  ks : ∀ s o, K.sub = some (s, o) → w.heap[s]? = some (.cells #[.slice (some ⟨o, 0, none⟩) K.N K.N, .int .i64 K.sDC, vc] 64 (0, 0)) ∧ Own (Value.int .u8) 62 w o K.N S.ofs ∧ S.ofs.length = K.N
  kcv : w.ownsRow K.B 3 1 vc S.cons.length (S.cons.map (Value.int .i64))
  kcf : ∀ g, vc.ownBlock = some g → g ∉ K.fixed ∧ v.ownBlock ≠ some g
def Live (K : Blks) (w : World) (S : LS) : Prop := ∃ v vc, LiveAt K w S v vc

namespace LiveAt
variable {K : Blks} {w w' : World} {S : LS} {v vc : Value}

theorem lt (h : LiveAt K w S v vc) : ∀ g ∈ K.fixed, g < w.heap.size := by
  intro g hg
  unfold Blks.fixed at hg
  rcases hs : K.sub with _ | ⟨s, o⟩
  · rw [hs] at hg
    simp [subBlocks] at hg
    rcases hg with rfl | rfl | rfl | rfl
    · exact h.kt.lt
    · exact h.kh.lt
    · exact lt_of_heap h.kc
    · exact lt_of_heap h.kx
  · rw [hs] at hg
    simp [subBlocks] at hg
    rcases hg with rfl | rfl | rfl | rfl | rfl | rfl
    · exact h.kt.lt
    · exact h.kh.lt
    · exact lt_of_heap h.kc
    · exact lt_of_heap h.kx
    · exact lt_of_heap (h.ks _ _ hs).1
    · exact (h.ks _ _ hs).2.1.lt

theorem mem_kb : K.kb ∈ K.fixed := by simp [Blks.fixed]
theorem mem_hb : K.hb ∈ K.fixed := by simp [Blks.fixed]
theorem mem_cb : K.cb ∈ K.fixed := by simp [Blks.fixed]
theorem mem_tb : K.tb ∈ K.fixed := by simp [Blks.fixed]
theorem mem_s {s o : Nat} (h : K.sub = some (s, o)) : s ∈ K.fixed := by simp [Blks.fixed, h, subBlocks]
theorem mem_o {s o : Nat} (h : K.sub = some (s, o)) : o ∈ K.fixed := by simp [Blks.fixed, h, subBlocks]

/-- Everything that is looked at is as it was. -/
theorem of_blocks (h : LiveAt K w S v vc) (hf : ∀ g ∈ K.fixed, w'.heap[g]? = w.heap[g]?) (hv : ∀ g, v.ownBlock = some g → w'.heap[g]? = w.heap[g]?) (hc : ∀ g, vc.ownBlock = some g → w'.heap[g]? = w.heap[g]?) : LiveAt K w' S v vc where
  nodup := h.nodup
  low := h.low
  kt := h.kt.of_block (hf _ mem_kb)
  ktl := h.ktl
  kh := h.kh.of_block (hf _ mem_hb)
  khl := h.khl
  kc := (hf _ mem_cb).trans h.kc
  kx := (hf _ mem_tb).trans h.kx
  kv := ownsRow_of_block h.kv hv
  kvf := h.kvf
  kn := h.kn
  ks := fun s o hs => ⟨(hf _ (mem_s hs)).trans (h.ks s o hs).1, (h.ks s o hs).2.1.of_block (hf _ (mem_o hs)), (h.ks s o hs).2.2⟩
  kcv := ownsRow_of_block h.kcv hc
  kcf := h.kcf

theorem vlt (h : LiveAt K w S v vc) {g : Nat} (hg : v.ownBlock = some g) : K.B ≤ g ∧ g < w.heap.size := h.kv.lt g hg
theorem clt (h : LiveAt K w S v vc) {g : Nat} (hg : vc.ownBlock = some g) : K.B ≤ g ∧ g < w.heap.size := h.kcv.lt g hg

theorem alloc (h : LiveAt K w S v vc) (o : Obj) : LiveAt K (w.alloc o) S v vc :=
  h.of_blocks (fun g hg => Below.heap_alloc _ _ _ (h.lt g hg)) (fun g hg => Below.heap_alloc _ _ _ (h.vlt hg).2) (fun g hg => Below.heap_alloc _ _ _ (h.clt hg).2)
theorem drewN (h : LiveAt K w S v vc) (q : Nat) : LiveAt K (w.drewN q) S v vc := h.of_blocks (fun _ _ => rfl) (fun _ _ => rfl) (fun _ _ => rfl)
theorem below {B' : Nat} (h : LiveAt K w S v vc) (hb : Below w.heap.size w w') : LiveAt K w' S v vc :=
  h.of_blocks (fun g hg => hb.block _ (h.lt g hg)) (fun g hg => hb.block _ (h.vlt hg).2) (fun g hg => hb.block _ (h.clt hg).2)

theorem ne_of (h : LiveAt K w S v vc) : K.kb ≠ K.hb ∧ K.kb ≠ K.cb ∧ K.kb ≠ K.tb ∧ K.hb ≠ K.cb ∧ K.hb ≠ K.tb ∧ K.cb ≠ K.tb := by
  have := h.nodup
  unfold Blks.fixed at this
  simp at this
  omega
theorem ne_sub (h : LiveAt K w S v vc) {s o : Nat} (hs : K.sub = some (s, o)) : (s ≠ o ∧ s ≠ K.kb ∧ s ≠ K.hb ∧ s ≠ K.cb ∧ s ≠ K.tb) ∧ o ≠ K.kb ∧ o ≠ K.hb ∧ o ≠ K.cb ∧ o ≠ K.tb := by
  have := h.nodup
  unfold Blks.fixed at this
  rw [hs] at this
  simp [subBlocks] at this
  omega

/-- A block with another number is as it was. -/
theorem far (w : World) (b k i : Nat) (u : Value) (h : k ≠ b) : (w.setCell ⟨b, i, none⟩ u).heap[k]? = w.heap[k]? := Below.heap_setCell _ _ _ _ h

/-- The flag of a node. -/
theorem setTaken (h : LiveAt K w S v vc) (i : Nat) (b : Bool) : LiveAt K (w.setCell ⟨K.kb, i, none⟩ (.bool b)) { S with taken := S.taken.set i b } v vc := by
  obtain ⟨n1, n2, n3, n4, n5, n6⟩ := h.ne_of
  have hv : ∀ g, v.ownBlock = some g → g ≠ K.kb := fun g hg e => h.kvf g hg (e ▸ mem_kb)
  have hc : ∀ g, vc.ownBlock = some g → g ≠ K.kb := fun g hg e => (h.kcf g hg).1 (e ▸ mem_kb)
  exact { nodup := h.nodup, low := h.low, kt := h.kt.set i b, ktl := by simpa using h.ktl, kh := h.kh.other n1.symm _, khl := h.khl, kc := (far _ _ _ _ _ n2.symm).trans h.kc, kx := (far _ _ _ _ _ n3.symm).trans h.kx,
          kv := ownsRow_of_block h.kv fun g hg => far _ _ _ _ _ (hv g hg), kvf := h.kvf, kn := h.kn,
          ks := fun s o hs => by
            obtain ⟨⟨a1, a2, a3, a4, a5⟩, b1, b2, b3, b4⟩ := h.ne_sub hs
            exact ⟨(far _ _ _ _ _ a2).trans (h.ks s o hs).1, (h.ks s o hs).2.1.other b1 _, (h.ks s o hs).2.2⟩
          kcv := ownsRow_of_block h.kcv fun g hg => far _ _ _ _ _ (hc g hg), kcf := h.kcf }

/-- The flag of a datacenter. -/
theorem setHeld (h : LiveAt K w S v vc) (i : Nat) (b : Bool) : LiveAt K (w.setCell ⟨K.hb, i, none⟩ (.bool b)) { S with held := S.held.set i b } v vc := by
  obtain ⟨n1, n2, n3, n4, n5, n6⟩ := h.ne_of
  have hv : ∀ g, v.ownBlock = some g → g ≠ K.hb := fun g hg e => h.kvf g hg (e ▸ mem_hb)
  have hc : ∀ g, vc.ownBlock = some g → g ≠ K.hb := fun g hg e => (h.kcf g hg).1 (e ▸ mem_hb)
  exact { nodup := h.nodup, low := h.low, kt := h.kt.other n1 _, ktl := h.ktl, kh := h.kh.set i b, khl := by simpa using h.khl, kc := (far _ _ _ _ _ n4.symm).trans h.kc, kx := (far _ _ _ _ _ n5.symm).trans h.kx,
          kv := ownsRow_of_block h.kv fun g hg => far _ _ _ _ _ (hv g hg), kvf := h.kvf, kn := h.kn,
          ks := fun s o hs => by
            obtain ⟨⟨a1, a2, a3, a4, a5⟩, b1, b2, b3, b4⟩ := h.ne_sub hs
            exact ⟨(far _ _ _ _ _ a3).trans (h.ks s o hs).1, (h.ks s o hs).2.1.other b2 _, (h.ks s o hs).2.2⟩
          kcv := ownsRow_of_block h.kcv fun g hg => far _ _ _ _ _ (hc g hg), kcf := h.kcf }

/-- The presence of a node. -/
theorem setOf (h : LiveAt K w S v vc) {s o : Nat} (hs : K.sub = some (s, o)) (i : Nat) (x : Int) : LiveAt K (w.setCell ⟨o, i, none⟩ (.int .u8 x)) { S with ofs := S.ofs.set i x } v vc := by
  obtain ⟨⟨a1, a2, a3, a4, a5⟩, b1, b2, b3, b4⟩ := h.ne_sub hs
  have hv : ∀ g, v.ownBlock = some g → g ≠ o := fun g hg e => h.kvf g hg (e ▸ mem_o hs)
  have hc : ∀ g, vc.ownBlock = some g → g ≠ o := fun g hg e => (h.kcf g hg).1 (e ▸ mem_o hs)
  exact { nodup := h.nodup, low := h.low, kt := h.kt.other b1.symm _, ktl := h.ktl, kh := h.kh.other b2.symm _, khl := h.khl, kc := (far _ _ _ _ _ b3.symm).trans h.kc, kx := (far _ _ _ _ _ b4.symm).trans h.kx,
          kv := ownsRow_of_block h.kv fun g hg => far _ _ _ _ _ (hv g hg), kvf := h.kvf, kn := fun e => (by rw [hs] at e; cases e),
          ks := fun s' o' hs' => by
            rw [hs] at hs'
            cases hs'
            exact ⟨(far _ _ _ _ _ a1).trans (h.ks s o hs).1, (h.ks s o hs).2.1.set i x, by simpa using (h.ks s o hs).2.2⟩
          kcv := ownsRow_of_block h.kcv fun g hg => far _ _ _ _ _ (hc g hg), kcf := h.kcf }

/-- The row of the nodes chosen has grown, and its box holds the new slice. -/
theorem setChosen (h : LiveAt K w S v vc) (x : Int) (o : Obj) {w1 : World} {g cap : Nat} (hown : w1.ownsRow K.B 3 1 (.slice (some ⟨g, 0, none⟩) (S.chosen.length + 1) cap) (S.chosen.length + 1) (S.chosen.map (Value.int .i64) ++ [.int .i64 x]))
    (hgrow : (w.alloc o).grownBy w1 v.ownBlock) (hat : v.ownBlock = some g ∨ g = w.heap.size + 1) : LiveAt K (w1.setCell ⟨K.cb, 0, none⟩ (.slice (some ⟨g, 0, none⟩) (S.chosen.length + 1) cap)) { S with chosen := S.chosen ++ [x] } (.slice (some ⟨g, 0, none⟩) (S.chosen.length + 1) cap) vc := by
  have h1 := h.alloc o
  have hgf : g ∉ K.fixed := by
    rcases hat with hat | rfl
    · exact h.kvf g hat
    · intro hm
      have := h.lt _ hm
      omega
  have hgc : ∀ k, vc.ownBlock = some k → g ≠ k := by
    intro k hk e
    subst e
    rcases hat with hat | rfl
    · exact (h.kcf g hk).2 hat
    · have := (h.clt hk).2
      omega
  have hfx : ∀ k ∈ K.fixed, w1.heap[k]? = (w.alloc o).heap[k]? := fun k hk => hgrow.block k (h1.lt k hk) (fun e => h.kvf k e.symm hk)
  have hcx : ∀ k, vc.ownBlock = some k → w1.heap[k]? = (w.alloc o).heap[k]? := fun k hk => hgrow.block k (h1.clt hk).2 (fun e => (h.kcf k hk).2 e.symm)
  obtain ⟨n1, n2, n3, n4, n5, n6⟩ := h.ne_of
  have hcb : ∀ k, k ∈ K.fixed → k ≠ K.cb → (w1.setCell ⟨K.cb, 0, none⟩ (.slice (some ⟨g, 0, none⟩) (S.chosen.length + 1) cap)).heap[k]? = (w.alloc o).heap[k]? := fun k hk hn => (far _ _ _ _ _ hn).trans (hfx k hk)
  exact { nodup := h.nodup, low := h.low, kt := h1.kt.of_block (hcb _ mem_kb n2), ktl := h.ktl, kh := h1.kh.of_block (hcb _ mem_hb n4), khl := h.khl,
          kc := by
            have := (hfx _ mem_cb).trans h1.kc
            simp [World.setCell, Array.getElem?_modify, this],
          kx := (hcb _ mem_tb n6.symm).trans h1.kx,
          kv := by
            rw [List.length_append, List.length_singleton, List.map_append]
            exact ownsRow_of_block hown fun k hk => far _ _ _ _ _ (by
              have : g = k := by simpa [Value.ownBlock] using hk
              rw [← this]
              exact fun e => hgf (e ▸ mem_cb)),
          kvf := fun k hk => by
            have : g = k := by simpa [Value.ownBlock] using hk
            rw [← this]
            exact hgf,
          kn := h.kn,
          ks := fun s o' hs => by
            obtain ⟨⟨a1, a2, a3, a4, a5⟩, b1, b2, b3, b4⟩ := h.ne_sub hs
            exact ⟨(hcb _ (mem_s hs) a4).trans (h1.ks s o' hs).1, (h1.ks s o' hs).2.1.of_block (hcb _ (mem_o hs) b3), (h.ks s o' hs).2.2⟩
          kcv := ownsRow_of_block h1.kcv fun k hk => (far _ K.cb k _ _ (fun e => (h.kcf k hk).1 (e ▸ mem_cb))).trans (hcx k hk),
          kcf := fun k hk => ⟨(h.kcf k hk).1, fun e => hgc k hk (by simpa [Value.ownBlock] using e)⟩ }

/-- The row of the nodes consulted has grown, and the subset holds the new slice. -/
theorem setCons (h : LiveAt K w S v vc) {s o : Nat} (hs : K.sub = some (s, o)) (x : Int) (ob : Obj) {w1 : World} {g cap : Nat} (hown : w1.ownsRow K.B 3 1 (.slice (some ⟨g, 0, none⟩) (S.cons.length + 1) cap) (S.cons.length + 1) (S.cons.map (Value.int .i64) ++ [.int .i64 x]))
    (hgrow : (w.alloc ob).grownBy w1 vc.ownBlock) (hat : vc.ownBlock = some g ∨ g = w.heap.size + 1) : LiveAt K (w1.setCell ⟨s, 2, none⟩ (.slice (some ⟨g, 0, none⟩) (S.cons.length + 1) cap)) { S with cons := S.cons ++ [x] } v (.slice (some ⟨g, 0, none⟩) (S.cons.length + 1) cap) := by
  have h1 := h.alloc ob
  have hgf : g ∉ K.fixed := by
    rcases hat with hat | rfl
    · exact (h.kcf g hat).1
    · intro hm
      have := h.lt _ hm
      omega
  have hgc : ∀ k, v.ownBlock = some k → g ≠ k := by
    intro k hk e
    subst e
    rcases hat with hat | rfl
    · exact (h.kcf g hat).2 hk
    · have := (h.vlt hk).2
      omega
  have hfx : ∀ k ∈ K.fixed, w1.heap[k]? = (w.alloc ob).heap[k]? := fun k hk => hgrow.block k (h1.lt k hk) (fun e => (h.kcf k e.symm).1 hk)
  have hvx : ∀ k, v.ownBlock = some k → w1.heap[k]? = (w.alloc ob).heap[k]? := fun k hk => hgrow.block k (h1.vlt hk).2 (fun e => (h.kcf k e.symm).2 hk)
  obtain ⟨⟨a1, a2, a3, a4, a5⟩, b1, b2, b3, b4⟩ := h.ne_sub hs
  have hcb : ∀ k, k ∈ K.fixed → k ≠ s → (w1.setCell ⟨s, 2, none⟩ (.slice (some ⟨g, 0, none⟩) (S.cons.length + 1) cap)).heap[k]? = (w.alloc ob).heap[k]? := fun k hk hn => (far _ _ _ _ _ hn).trans (hfx k hk)
  exact { nodup := h.nodup, low := h.low, kt := h1.kt.of_block (hcb _ mem_kb a2.symm), ktl := h.ktl, kh := h1.kh.of_block (hcb _ mem_hb a3.symm), khl := h.khl,
          kc := (hcb _ mem_cb a4.symm).trans h1.kc,
          kx := (hcb _ mem_tb a5.symm).trans h1.kx,
          kv := ownsRow_of_block h1.kv fun k hk => (far _ s k _ _ (fun e => h.kvf k hk (e ▸ mem_s hs))).trans (hvx k hk),
          kvf := h.kvf,
          kn := fun e => (by rw [hs] at e; cases e),
          ks := fun s' o' hs' => by
            rw [hs] at hs'
            cases hs'
            refine ⟨?_, (h1.ks s o hs).2.1.of_block (hcb _ (mem_o hs) a1.symm), (h.ks s o hs).2.2⟩
            have := (hfx _ (mem_s hs)).trans (h1.ks s o hs).1
            simp [World.setCell, Array.getElem?_modify, this]
          kcv := by
            rw [List.length_append, List.length_singleton, List.map_append]
            exact ownsRow_of_block hown fun k hk => far _ _ _ _ _ (by
              have : g = k := by simpa [Value.ownBlock] using hk
              rw [← this]
              exact fun e => hgf (e ▸ mem_s hs)),
          kcf := fun k hk => by
            have : g = k := by simpa [Value.ownBlock] using hk
            rw [← this]
            exact ⟨hgf, fun e => hgc g e rfl⟩ }

/-- The box's cell may be written, and what lies there. -/
theorem boxCell (h : LiveAt K w S v vc) : w.cell? ⟨K.cb, 0, none⟩ = some v ∧ w.frozen? ⟨K.cb, 0, none⟩ = false := by
  have := h.kc
  exact ⟨by simp [World.cell?, this], by simp [World.frozen?, this]⟩
theorem flagBox (h : LiveAt K w S v vc) : w.cell? ⟨K.tb, 0, none⟩ = some (.slice (some ⟨K.kb, 0, none⟩) K.N K.N) := by
  have := h.kx
  simp [World.cell?, this]
theorem subCells (h : LiveAt K w S v vc) {s o : Nat} (hs : K.sub = some (s, o)) : w.cell? ⟨s, 0, none⟩ = some (.slice (some ⟨o, 0, none⟩) K.N K.N) ∧ w.cell? ⟨s, 1, none⟩ = some (.int .i64 K.sDC) ∧ w.cell? ⟨s, 2, none⟩ = some vc ∧ w.frozen? ⟨s, 2, none⟩ = false := by
  have := (h.ks s o hs).1
  exact ⟨by simp [World.cell?, this], by simp [World.cell?, this], by simp [World.cell?, this], by simp [World.frozen?, this]⟩
theorem takenCell (h : LiveAt K w S v vc) {i : Nat} (hi : i < K.N) : w.cell? ⟨K.kb, i, none⟩ = some (.bool (S.taken.getD i false)) := by
  have hl := h.ktl
  rw [h.kt.cell (by omega), List.getD_eq_getElem?_getD, List.getElem?_eq_getElem (by omega)]
  rfl
theorem heldCell (h : LiveAt K w S v vc) {i : Nat} (hi : i < K.M) : w.cell? ⟨K.hb, i, none⟩ = some (.bool (S.held.getD i false)) := by
  have hl := h.khl
  rw [h.kh.cell (by omega), List.getD_eq_getElem?_getD, List.getElem?_eq_getElem (by omega)]
  rfl
theorem ofCell (h : LiveAt K w S v vc) {s o : Nat} (hs : K.sub = some (s, o)) {i : Nat} (hi : i < K.N) : w.cell? ⟨o, i, none⟩ = some (.int .u8 (S.ofs.getD i 0)) := by
  have hl := (h.ks s o hs).2.2
  rw [(h.ks s o hs).2.1.cell (by omega), List.getD_eq_getElem?_getD, List.getElem?_eq_getElem (by omega)]
  rfl
end LiveAt
end Go.Proofs.Qxb6604780a
