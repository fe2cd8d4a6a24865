/-
  The walks of voids, counts and agrees: what one entry counts.
-/
import Derived.Test.Qxb6604777aBase
import Derived.Test.Qxb6604777aPlain
import Derived.Deep.QuietTactic
import Derived.BigQuiet
import Derived.Deep.RegionHeld3
namespace Go.Proofs.Qxb6604777a
set_option linter.unusedSimpArgs false
set_option linter.unusedVariables false
open Go.RowKit

/-- The flags' field V says vd of entry i. -/
def VoidCell (w : World) (V : Value) (i : Nat) (vd : Bool) : Prop :=
  (V = .slice none 0 0 ∧ vd = false) ∨ ∃ bv n, V = .slice (some ⟨bv, 0, none⟩) n n ∧ i < n ∧ w.cell? ⟨bv, i, none⟩ = some (.bool vd)
theorem VoidCell.keep {w w' : World} {V : Value} {i : Nat} {vd : Bool} (h : VoidCell w V i vd) (hb : Below w.heap.size w w') : VoidCell w' V i vd := by
  rcases h with h | ⟨bv, n, hV, hi, hc⟩
  · exact .inl h
  · exact .inr ⟨bv, n, hV, hi, (hb.cell (lt_of_cell hc)).trans hc⟩
theorem VoidCell.drewN {w : World} {V : Value} {i : Nat} {vd : Bool} (h : VoidCell w V i vd) (q : Nat) : VoidCell (w.drewN q) V i vd := h

/-- Is an entry that holds r voided? -/
def voidsV (r : ByteArray) (ag vd : Bool) : Bool := nem r && (!ag || vd)
/-- Does it count for the input x? -/
def cntB (r x : ByteArray) (ag vd : Bool) : Bool := (r.toList == x.toList) && !voidsV r ag vd
def cntV (r x : ByteArray) (ag vd : Bool) : Int := if cntB r x ag vd then 1 else 0

/-- A tally's block. -/
def TalAt (w : World) (T : Nat) (v0 v1 v2 v3 v4 v5 v6 v7 v8 v9 : Value) : Prop := w.heap[T]? = some (.cells #[v0, v1, v2, v3, v4, v5, v6, v7, v8, v9] 60 (0, 0))
section
variable {w w' : World} {T : Nat} {v0 v1 v2 v3 v4 v5 v6 v7 v8 v9 : Value}
theorem TalAt.c0 (h : TalAt w T v0 v1 v2 v3 v4 v5 v6 v7 v8 v9) : w.cell? ⟨T, 0, none⟩ = some v0 := by unfold TalAt at h; simp [World.cell?, h]
theorem TalAt.c2 (h : TalAt w T v0 v1 v2 v3 v4 v5 v6 v7 v8 v9) : w.cell? ⟨T, 2, none⟩ = some v2 := by unfold TalAt at h; simp [World.cell?, h]
theorem TalAt.c1 (h : TalAt w T v0 v1 v2 v3 v4 v5 v6 v7 v8 v9) : w.cell? ⟨T, 1, none⟩ = some v1 := by unfold TalAt at h; simp [World.cell?, h]
theorem TalAt.c3 (h : TalAt w T v0 v1 v2 v3 v4 v5 v6 v7 v8 v9) : w.cell? ⟨T, 3, none⟩ = some v3 := by unfold TalAt at h; simp [World.cell?, h]
theorem TalAt.c6 (h : TalAt w T v0 v1 v2 v3 v4 v5 v6 v7 v8 v9) : w.cell? ⟨T, 6, none⟩ = some v6 := by unfold TalAt at h; simp [World.cell?, h]
theorem TalAt.c7 (h : TalAt w T v0 v1 v2 v3 v4 v5 v6 v7 v8 v9) : w.cell? ⟨T, 7, none⟩ = some v7 := by unfold TalAt at h; simp [World.cell?, h]
theorem TalAt.c8 (h : TalAt w T v0 v1 v2 v3 v4 v5 v6 v7 v8 v9) : w.cell? ⟨T, 8, none⟩ = some v8 := by unfold TalAt at h; simp [World.cell?, h]
theorem TalAt.c9 (h : TalAt w T v0 v1 v2 v3 v4 v5 v6 v7 v8 v9) : w.cell? ⟨T, 9, none⟩ = some v9 := by unfold TalAt at h; simp [World.cell?, h]
theorem TalAt.frozen (h : TalAt w T v0 v1 v2 v3 v4 v5 v6 v7 v8 v9) (i : Nat) : w.frozen? ⟨T, i, none⟩ = false := by unfold TalAt at h; simp [World.frozen?, h]
theorem TalAt.lt (h : TalAt w T v0 v1 v2 v3 v4 v5 v6 v7 v8 v9) : T < w.heap.size := lt_of_heap h
theorem TalAt.of_block (h : TalAt w T v0 v1 v2 v3 v4 v5 v6 v7 v8 v9) (e : w'.heap[T]? = w.heap[T]?) : TalAt w' T v0 v1 v2 v3 v4 v5 v6 v7 v8 v9 := by unfold TalAt at h ⊢; rw [e]; exact h
theorem TalAt.set7 (h : TalAt w T v0 v1 v2 v3 v4 v5 v6 v7 v8 v9) (v : Value) : TalAt (w.setCell ⟨T, 7, none⟩ v) T v0 v1 v2 v3 v4 v5 v6 v v8 v9 := by
  unfold TalAt at h ⊢
  simp [World.setCell, Array.getElem?_modify, h]
end

theorem agrees_any (p e : Int) (r : ByteArray) (w : World) :
    Calls Try.prog 36 #[.agg #[.int .i64 p, .int .i64 e, .string r]] w fun en w' => en = .returned (.bool (p == e)) ∧ Below w.heap.size w w' ∧ w'.heap.size = w.heap.size + 1 := by
  go_enter Try.func36, Try.ntmps36
  go_wp2
  go_ret
  exact ⟨rfl, (Below.refl _ _).alloc (Nat.le_refl _) _, by simp⟩

theorem voids_any (T i : Nat) (iz : Int) (hiz : iz = (i : Int)) (br n2 : Nat) (r : ByteArray) (ag vd : Bool) (v0 v1 v2 v3 v4 v5 V v8 v9 : Value) (w : World) (hi : i < n2) (hl : n2 ≤ 65536)
    (hT : TalAt w T v0 v1 v2 v3 v4 v5 (.slice (some ⟨br, 0, none⟩) n2 n2) V v8 v9) (hr : w.cell? ⟨br, i, none⟩ = some (.string r)) (hv : VoidCell w V i vd) :
    Calls Try.prog 39 #[.pointer (some ⟨T, 0, none⟩), .int .i64 iz, .bool ag] w fun e w' => e = .returned (.bool (voidsV r ag vd)) ∧ w' = w := by
  subst hiz
  have h6 := hT.c6
  have h7 := hT.c7
  have hiI : (i : Int) < (n2 : Int) := by omega
  by_cases hx : r.toList.isEmpty = true
  · have hf : voidsV r ag vd = false := by simp [voidsV, nem_false hx]
    have HF := hide hf
    clear hf
    go_enter Try.func39, Try.ntmps39
    go_wp2
    go_ret
    exact ⟨ret_bool (unhide HF).symm, rfl⟩
  · have hx' : r.toList.isEmpty = false := by simpa using hx
    clear hx
    cases ag with
    | false =>
      have hf : voidsV r false vd = true := by simp [voidsV, nem_true hx']
      have HF := hide hf
      clear hf
      go_enter Try.func39, Try.ntmps39
      go_wp2
      go_ret
      exact ⟨ret_bool (unhide HF).symm, rfl⟩
    | true =>
      have hf : voidsV r true vd = vd := by simp [voidsV, nem_true hx']
      have HF := hide hf
      clear hf
      rcases hv with ⟨rfl, rfl⟩ | ⟨bv, n, rfl, hin, hc⟩
      · have hnil := ne_nil_none Try.underlying22 0 0
        go_enter Try.func39, Try.ntmps39
        go_wp2
        go_ret
        exact ⟨ret_bool (unhide HF).symm, rfl⟩
      · have hnil := ne_nil_some Try.underlying22 ⟨bv, 0, none⟩ n n
        have hinI : (i : Int) < (n : Int) := by omega
        go_enter Try.func39, Try.ntmps39
        go_wp2
        go_ret
        exact ⟨ret_bool (unhide HF).symm, rfl⟩

set_option maxHeartbeats 1000000 in
theorem counts_any (T i : Nat) (iz : Int) (hiz : iz = (i : Int)) (bi br n2 M n0 : Nat) (ac : Option Addr) (r x : ByteArray) (ag vd : Bool) (v1 v2 v4 v5 V v8 v9 : Value) (w : World) (hi : i < n2) (hl : n2 ≤ 65536) (hM : 0 < M) (hM2 : M ≤ 65536)
    (hT : TalAt w T (.slice ac M n0) v1 v2 (.slice (some ⟨bi, 0, none⟩) M M) v4 v5 (.slice (some ⟨br, 0, none⟩) n2 n2) V v8 v9) (hr : w.cell? ⟨br, i, none⟩ = some (.string r)) (hx : w.cell? ⟨bi, i % M, none⟩ = some (.string x)) (hv : VoidCell w V i vd) :
    Calls Try.prog 37 #[.pointer (some ⟨T, 0, none⟩), .int .i64 iz, .bool ag] w fun e w' => e = .returned (.int .i64 (cntV r x ag vd)) ∧ ∃ q, w' = w.drewN q := by
  subst hiz
  have h0 := hT.c0
  have h3 := hT.c3
  have h6 := hT.c6
  have hiI : (i : Int) < (n2 : Int) := by omega
  have hMI : (1 : Int) ≤ (M : Int) := by omega
  have hmod : i % M < M := Nat.mod_lt _ hM
  have hmI : ((i % M : Nat) : Int) < (M : Int) := by omega
  have hmI' : (i : Int) % (M : Int) < (M : Int) := by have := hmI; simpa using this
  have hmI0 : (0 : Int) ≤ (i : Int) % (M : Int) := by have : (0 : Int) ≤ ((i % M : Nat) : Int) := by omega
                                                      simpa using this
  by_cases he : (r.toList == x.toList) = true
  · have C := hide (fun q => voids_any T i (i : Int) rfl br n2 r ag vd _ _ _ _ _ _ V _ _ (w.drewN q) hi hl hT hr hv)
    have hf : cntV r x ag vd = if voidsV r ag vd then 0 else 1 := by unfold cntV cntB; rw [he]; cases voidsV r ag vd <;> rfl
    have HF := hide hf
    clear hf hv hT
    go_enter Try.func37, Try.ntmps37
    go_wp2
    go_quiet ((go_at_call 39; exact Calls.quiet_of_same (unhide C _)))
    go_wp2
    all_goals
      go_ret
      exact ⟨ret_int (by rw [unhide HF]; simp [*]), _, rfl⟩
  · have he' : (r.toList == x.toList) = false := by simpa using he
    clear he
    have hf : cntV r x ag vd = 0 := by unfold cntV cntB; rw [he']; rfl
    have HF := hide hf
    clear hf hv hT
    go_enter Try.func37, Try.ntmps37
    go_wp2
    go_quiet (fail)
    go_wp2
    go_ret
    exact ⟨ret_int (unhide HF).symm, _, rfl⟩
end Go.Proofs.Qxb6604777a
