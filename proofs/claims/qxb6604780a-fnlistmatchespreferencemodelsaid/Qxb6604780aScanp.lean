/-
  What scan answers, said plainly: the nodes met before the holder that are present; how many keys they have.
-/
import Derived.Test.Qxb6604780aPlain
namespace Go.Proofs.Qxb6604780a

/-- How many numbers below m are there. -/
def cnt (m : Nat) (l : List Int) : Nat := (List.range m).countP fun d : Nat => decide ((d : Int) ∈ l)
/-- Which numbers below m are there. -/
def flagsOf (m : Nat) (l : List Int) : List Bool := (List.range m).map fun d : Nat => decide ((d : Int) ∈ l)
theorem flagsOf_length (m : Nat) (l : List Int) : (flagsOf m l).length = m := by simp [flagsOf]
theorem flagsOf_at (m : Nat) (l : List Int) (i : Nat) : (flagsOf m l)[i]? = if i < m then some (decide ((i : Int) ∈ l)) else none := by
  unfold flagsOf
  rw [List.getElem?_map]
  by_cases h : i < m
  · rw [if_pos h, List.getElem?_range h]
    rfl
  · rw [if_neg h, List.getElem?_eq_none (by simpa using h)]
    rfl
theorem flagsOf_nil (m : Nat) : flagsOf m [] = List.replicate m false := by
  apply List.ext_getElem?
  intro i
  rw [flagsOf_at, List.getElem?_replicate]
  simp
theorem flagsOf_get (m : Nat) (l : List Int) (d : Nat) (h : d < m) : (flagsOf m l).getD d false = decide ((d : Int) ∈ l) := by
  rw [List.getD_eq_getElem?_getD, flagsOf_at, if_pos h]
  rfl
theorem flagsOf_set (m : Nat) (l : List Int) (d : Nat) (h : d < m) : (flagsOf m l).set d true = flagsOf m (l ++ [(d : Int)]) := by
  apply List.ext_getElem?
  intro i
  rw [List.getElem?_set, flagsOf_length, flagsOf_at, flagsOf_at]
  by_cases e : d = i
  · subst e
    rw [if_pos rfl, if_pos h]
    simp [h]
  · rw [if_neg e]
    have : decide ((i : Int) ∈ l ++ [(d : Int)]) = decide ((i : Int) ∈ l) := by
      simp
      intro e2
      omega
    rw [this]
theorem flagsOf_same (m : Nat) (l : List Int) (x : Int) (h : x ∈ l) : flagsOf m (l ++ [x]) = flagsOf m l := by
  unfold flagsOf
  apply List.map_congr_left
  intro d _
  simp
  intro e
  rw [e]
  exact h
theorem cnt_nil (m : Nat) : cnt m [] = 0 := by
  unfold cnt
  rw [List.countP_eq_zero]
  simp
theorem cnt_mono (m : Nat) {l l' : List Int} (h : ∀ x ∈ l, x ∈ l') : cnt m l ≤ cnt m l' := by
  unfold cnt
  apply List.countP_mono_left
  intro d _ hd
  simp at hd ⊢
  exact h _ hd
theorem cnt_same (m : Nat) (l : List Int) (x : Int) (h : x ∈ l) : cnt m (l ++ [x]) = cnt m l := by
  apply Nat.le_antisymm
  · apply cnt_mono
    intro y hy
    rcases List.mem_append.1 hy with hy | hy
    · exact hy
    · rw [List.mem_singleton.1 hy]; exact h
  · exact cnt_mono m fun y hy => List.mem_append_left _ hy
theorem cnt_new (m : Nat) (l : List Int) (d : Nat) (hd : d < m) (h : (d : Int) ∉ l) : cnt m (l ++ [(d : Int)]) = cnt m l + 1 := by
  induction m with
  | zero => omega
  | succ m ih =>
    unfold cnt at ih ⊢
    rw [List.range_succ, List.countP_append, List.countP_append, List.countP_singleton, List.countP_singleton]
    by_cases e : d = m
    · subst e
      have h0 : List.countP (fun k : Nat => decide ((k : Int) ∈ l ++ [(d : Int)])) (List.range d) = List.countP (fun k : Nat => decide ((k : Int) ∈ l)) (List.range d) := by
        apply List.countP_congr
        intro k hk
        have := List.mem_range.1 hk
        simp
        intro e2
        omega
      rw [h0]
      simp [h]
    · rw [ih (by omega)]
      have : decide ((m : Int) ∈ l ++ [(d : Int)]) = decide ((m : Int) ∈ l) := by
        simp
        intro e2
        omega
      rw [this]
      omega
theorem cnt_le (m : Nat) (l : List Int) : cnt m l ≤ m := by
  unfold cnt
  have := List.countP_le_length (p := fun d : Nat => decide ((d : Int) ∈ l)) (l := List.range m)
  simpa using this

/-- Those of xs that are present. -/
def here (ofs xs : List Int) : List Int := xs.filter fun x => ofs.getD x.toNat 0 == 0
/-- Those ahead of the holder. -/
def ahead (holder : Int) (xs : List Int) : List Int := xs.takeWhile fun x => !(x == holder)

/-- What the picks' step answers. -/
def scanPicks (dc ofs : List Int) (M : Nat) (n holder : Int) (seq : List Int) : Bool :=
  decide (dcAt dc holder ∈ (here ofs (ahead holder seq)).map (dcAt dc)) || decide (n ≤ (cnt M ((here ofs (ahead holder seq)).map (dcAt dc)) : Int))
/-- What the other steps answer. -/
def scanPoints (dc ofs : List Int) (N : Nat) (n holder step : Int) (seq : List Int) : Bool :=
  decide (n ≤ (cnt N (here ofs (ahead holder seq)) : Int)) && (decide (step = 0) || decide (dcAt dc holder ∈ (here ofs (ahead holder seq)).map (dcAt dc)))
def scanned (dc ofs pts pks : List Int) (N M : Nat) (n holder walk pick step : Int) : Bool :=
  if step = 2 then scanPicks dc ofs M n holder (rot pks pick.toNat) else scanPoints dc ofs N n holder step (rot pts walk.toNat)

theorem ahead_split (holder : Int) : ∀ (xs : List Int), holder ∈ xs → ∃ P, P < xs.length ∧ xs[P]? = some holder ∧ (∀ i y, i < P → xs[i]? = some y → y ≠ holder) ∧ ahead holder xs = xs.take P
  | [], h => by simp at h
  | x :: xs, h => by
    by_cases e : x = holder
    · subst e
      exact ⟨0, by simp, by simp, fun i y hi => by omega, by simp [ahead]⟩
    · have h2 : holder ∈ xs := by
        rcases List.mem_cons.1 h with h | h
        · exact absurd h.symm e
        · exact h
      obtain ⟨P, h1, h3, h4, h5⟩ := ahead_split holder xs h2
      refine ⟨P + 1, by simpa using h1, by simpa using h3, fun i y hi hy => ?_, ?_⟩
      · cases i with
        | zero =>
          simp at hy
          rw [← hy]
          exact e
        | succ i => exact h4 i y (by omega) (by simpa using hy)
      · unfold ahead at h5 ⊢
        rw [List.takeWhile_cons, if_pos (by simpa using e), h5, List.take_succ_cons]

theorem here_succ {ofs seq : List Int} {j : Nat} {x : Int} (h : seq[j]? = some x) : here ofs (seq.take (j + 1)) = here ofs (seq.take j) ++ if (ofs.getD x.toNat 0 == 0) = true then [x] else [] := by
  obtain ⟨hj, hx⟩ := List.getElem?_eq_some_iff.1 h
  unfold here
  rw [List.take_succ_eq_append_getElem hj, List.filter_append, hx, List.filter_cons, List.filter_nil]
theorem here_take {ofs seq : List Int} {i P : Nat} (h : i ≤ P) : ∀ x ∈ here ofs (seq.take i), x ∈ here ofs (seq.take P) := by
  intro x hx
  unfold here at hx ⊢
  rw [List.mem_filter] at hx ⊢
  refine ⟨?_, hx.2⟩
  have := (List.take_prefix_take_left (l := seq) h).subset hx.1
  exact this
def keysP (dc ofs seq : List Int) (j : Nat) : List Int := (here ofs (seq.take j)).map (dcAt dc)
theorem keysP_yes {dc ofs seq : List Int} {j : Nat} {x : Int} (h : seq[j]? = some x) (hp : (ofs.getD x.toNat 0 == 0) = true) : keysP dc ofs seq (j + 1) = keysP dc ofs seq j ++ [dcAt dc x] := by
  unfold keysP
  rw [here_succ h, if_pos hp, List.map_append]
  rfl
theorem keysP_no {dc ofs seq : List Int} {j : Nat} {x : Int} (h : seq[j]? = some x) (hp : (ofs.getD x.toNat 0 == 0) = false) : keysP dc ofs seq (j + 1) = keysP dc ofs seq j := by
  unfold keysP
  rw [here_succ h, hp, if_neg (by simp), List.append_nil]
theorem keysP_le {dc ofs seq : List Int} {i P : Nat} (h : i ≤ P) : ∀ x ∈ keysP dc ofs seq i, x ∈ keysP dc ofs seq P := by
  intro x hx
  obtain ⟨y, hy, rfl⟩ := List.mem_map.1 hx
  exact List.mem_map.2 ⟨y, here_take h y hy, rfl⟩
theorem here_yes {ofs seq : List Int} {j : Nat} {x : Int} (h : seq[j]? = some x) (hp : (ofs.getD x.toNat 0 == 0) = true) : here ofs (seq.take (j + 1)) = here ofs (seq.take j) ++ [x] := by
  rw [here_succ h, if_pos hp]
theorem here_no {ofs seq : List Int} {j : Nat} {x : Int} (h : seq[j]? = some x) (hp : (ofs.getD x.toNat 0 == 0) = false) : here ofs (seq.take (j + 1)) = here ofs (seq.take j) := by
  rw [here_succ h, hp, if_neg (by simp), List.append_nil]

/-- More nodes present keep the answer. -/
theorem here_more {ofs ofs2 xs : List Int} (h : ∀ i, ofs.getD i 0 = 0 → ofs2.getD i 0 = 0) : ∀ x ∈ here ofs xs, x ∈ here ofs2 xs := by
  intro x hx
  unfold here at hx ⊢
  rw [List.mem_filter] at hx ⊢
  refine ⟨hx.1, ?_⟩
  have := hx.2
  simp only [beq_iff_eq] at this ⊢
  exact h _ this
theorem scanned_more {dc ofs ofs2 pts pks : List Int} {N M : Nat} {n holder walk pick step : Int} (h : ∀ i, ofs.getD i 0 = 0 → ofs2.getD i 0 = 0) (hs : scanned dc ofs pts pks N M n holder walk pick step = true) : scanned dc ofs2 pts pks N M n holder walk pick step = true := by
  unfold scanned at hs ⊢
  by_cases e : step = 2
  · rw [if_pos e] at hs ⊢
    unfold scanPicks at hs ⊢
    have hm : ∀ y ∈ (here ofs (ahead holder (rot pks pick.toNat))).map (dcAt dc), y ∈ (here ofs2 (ahead holder (rot pks pick.toNat))).map (dcAt dc) := by
      intro y hy
      obtain ⟨x, hx, rfl⟩ := List.mem_map.1 hy
      exact List.mem_map.2 ⟨x, here_more h x hx, rfl⟩
    have hc := cnt_mono M hm
    rw [Bool.or_eq_true, decide_eq_true_eq, decide_eq_true_eq] at hs ⊢
    rcases hs with hs | hs
    · exact .inl (hm _ hs)
    · exact .inr (by omega)
  · rw [if_neg e] at hs ⊢
    unfold scanPoints at hs ⊢
    have hm := here_more (xs := ahead holder (rot pts walk.toNat)) h
    have hc := cnt_mono N hm
    rw [Bool.and_eq_true, Bool.or_eq_true, decide_eq_true_eq, decide_eq_true_eq, decide_eq_true_eq] at hs ⊢
    obtain ⟨h1, h2⟩ := hs
    refine ⟨by omega, ?_⟩
    rcases h2 with h2 | h2
    · exact .inl h2
    · right
      obtain ⟨x, hx, hxe⟩ := List.mem_map.1 h2
      exact List.mem_map.2 ⟨x, hm x hx, hxe⟩
#print axioms scanned_more
end Go.Proofs.Qxb6604780a
