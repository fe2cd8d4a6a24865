/-
  The first node of each key along a walk; a loop that meets each key once is a loop over those; list's loops are such loops.
-/
import Derived.Test.Qxb6604780aScanp
namespace Go.Proofs.Qxb6604780a
set_option linter.unusedVariables false

section
variable (key : Int → Int) (ok : Int → Bool)
/-- The first of each key not yet seen. -/
def repsFrom : List Int → List Int → List Int
  | _, [] => []
  | seen, x :: xs => if ok x = true ∧ key x ∉ seen then x :: repsFrom (key x :: seen) xs else repsFrom seen xs
def oldKeys (xs : List Int) : List Int := (xs.filter ok).map key
theorem repsFrom_snoc (x : Int) : ∀ (xs seen : List Int), repsFrom key ok seen (xs ++ [x]) = repsFrom key ok seen xs ++ if ok x = true ∧ key x ∉ seen ∧ key x ∉ oldKeys key ok xs then [x] else []
  | [], seen => by
    simp only [List.nil_append, repsFrom, oldKeys, List.filter_nil, List.map_nil, List.not_mem_nil, not_false_eq_true, and_true]
  | y :: ys, seen => by
    rw [List.cons_append, repsFrom, repsFrom]
    by_cases h : ok y = true ∧ key y ∉ seen
    · rw [if_pos h, if_pos h, repsFrom_snoc x ys, List.cons_append]
      have e : (ok x = true ∧ key x ∉ key y :: seen ∧ key x ∉ oldKeys key ok ys) ↔ (ok x = true ∧ key x ∉ seen ∧ key x ∉ oldKeys key ok (y :: ys)) := by
        unfold oldKeys
        rw [List.filter_cons, if_pos h.1, List.map_cons, List.mem_cons, List.mem_cons]
        constructor
        · rintro ⟨h1, h2, h3⟩
          exact ⟨h1, fun h => h2 (.inr h), fun h => h.elim (fun e => h2 (.inl e)) h3⟩
        · rintro ⟨h1, h2, h3⟩
          exact ⟨h1, fun h => h.elim (fun e => h3 (.inl e)) h2, fun h => h3 (.inr h)⟩
      simp only [e]
    · rw [if_neg h, if_neg h, repsFrom_snoc x ys]
      have e : (ok x = true ∧ key x ∉ seen ∧ key x ∉ oldKeys key ok ys) ↔ (ok x = true ∧ key x ∉ seen ∧ key x ∉ oldKeys key ok (y :: ys)) := by
        unfold oldKeys
        rw [List.filter_cons]
        by_cases hy : ok y = true
        · have hs : key y ∈ seen := Classical.byContradiction fun hn => h ⟨hy, hn⟩
          rw [if_pos hy, List.map_cons, List.mem_cons]
          constructor
          · rintro ⟨h1, h2, h3⟩
            exact ⟨h1, h2, fun h => h.elim (fun e => h2 (e ▸ hs)) h3⟩
          · rintro ⟨h1, h2, h3⟩
            exact ⟨h1, h2, fun h => h3 (.inr h)⟩
        · rw [if_neg hy]
      simp only [e]

/-- Is place i the first of its key? -/
def firstAtB (seq : List Int) (i : Nat) : Bool := ok (seq.getD i 0) && decide (key (seq.getD i 0) ∉ oldKeys key ok (seq.take i))
theorem reps_succ (seq : List Int) (j : Nat) (hj : j < seq.length) : repsFrom key ok [] (seq.take (j + 1)) = repsFrom key ok [] (seq.take j) ++ if firstAtB key ok seq j = true then [seq.getD j 0] else [] := by
  have e : seq.getD j 0 = seq[j] := by
    rw [List.getD_eq_getElem?_getD, List.getElem?_eq_getElem hj]
    rfl
  rw [List.take_succ_eq_append_getElem hj, repsFrom_snoc, e]
  have hfe : (ok seq[j] = true ∧ key seq[j] ∉ [] ∧ key seq[j] ∉ oldKeys key ok (seq.take j)) ↔ firstAtB key ok seq j = true := by
    unfold firstAtB
    rw [e, Bool.and_eq_true, decide_eq_true_eq]
    exact ⟨fun h => ⟨h.1, h.2.2⟩, fun h => ⟨h.1, List.not_mem_nil, h.2⟩⟩
  by_cases h : firstAtB key ok seq j = true
  · rw [if_pos h, if_pos (hfe.2 h)]
  · rw [if_neg h, if_neg (fun z => h (hfe.1 z))]

section
variable {T : Type} (stop : T → Bool) (act : Int → T → T)
def loopB : List Int → T → T
  | [], t => t
  | x :: xs, t => if stop t = true then t else loopB xs (act x t)
def loopA : List Int → List Int → T → T
  | [], _, t => t
  | x :: xs, seen, t => if stop t = true then t else if ok x = true ∧ key x ∉ seen then loopA xs (key x :: seen) (act x t) else loopA xs seen t
theorem loopB_stop {t : T} (h : stop t = true) : ∀ xs, loopB stop act xs t = t
  | [] => rfl
  | x :: xs => by rw [loopB, if_pos h]
theorem loopA_eq : ∀ (seq seen : List Int) (t : T), loopA key ok stop act seq seen t = loopB stop act (repsFrom key ok seen seq) t
  | [], seen, t => by rw [loopA, repsFrom, loopB]
  | x :: xs, seen, t => by
    by_cases hs : stop t = true
    · rw [loopA, if_pos hs, loopB_stop stop act hs]
    · rw [loopA, if_neg hs, repsFrom]
      by_cases h : ok x = true ∧ key x ∉ seen
      · rw [if_pos h, if_pos h, loopB, if_neg hs]
        exact loopA_eq xs _ _
      · rw [if_neg h, if_neg h]
        exact loopA_eq xs _ _
end
end

def okOf (ofs : List Int) (x : Int) : Bool := !(ofs.getD x.toNat 0 == 1)
def stop1 (D : Int) (c : List Int) : Bool := !decide ((c.length : Int) < D)
def act1 (x : Int) (c : List Int) : List Int := c ++ [x]
def stop2 (n D : Int) (t : List Int × Nat) : Bool := !(decide ((t.1.length : Int) < n) && decide ((t.2 : Int) < D))
def act3 (x : Int) (c : List Int) : List Int := if x ∈ c then c else c ++ [x]
def act2 (x : Int) (t : List Int × Nat) : List Int × Nat := (act3 x t.1, t.2 + 1)

/-- What zzModelList computes. -/
def modelL (dc pts pks ofs : List Int) (up pf : Bool) (D n count : Int) (wk pick : Nat) : List Int :=
  loopB (stop1 count) act3 (repsFrom id (okOf ofs) [] (rot pts wk))
    (if up = true then (loopB (stop2 n D) act2 (repsFrom (dcAt dc) (okOf ofs) [] (rot pks pick)) (if pf = true ∧ up = true ∧ D < n then loopB (stop1 D) act1 (repsFrom (dcAt dc) (okOf ofs) [] (rot pts wk)) [] else [], 0)).1
     else if pf = true ∧ up = true ∧ D < n then loopB (stop1 D) act1 (repsFrom (dcAt dc) (okOf ofs) [] (rot pts wk)) [] else [])

theorem flagsOf_congr (m : Nat) {l l' : List Int} (h : ∀ x, x ∈ l ↔ x ∈ l') : flagsOf m l = flagsOf m l' := by
  apply List.ext_getElem?
  intro i
  rw [flagsOf_at, flagsOf_at]
  simp only [h]

theorem getD_set {α : Type} (l : List α) (i j : Nat) (v d : α) : (l.set i v).getD j d = if i = j ∧ i < l.length then v else l.getD j d := by
  rw [List.getD_eq_getElem?_getD, List.getElem?_set, List.getD_eq_getElem?_getD]
  by_cases e : i = j
  · subst e
    by_cases h : i < l.length
    · rw [if_pos rfl, if_pos h, if_pos ⟨rfl, h⟩]
      rfl
    · rw [if_pos rfl, if_neg h, if_neg (fun x => h x.2), List.getElem?_eq_none (by omega)]
  · rw [if_neg e, if_neg (fun x => e x.1)]

/-- How list's state hangs together with the presences as they came. -/
structure Inv (N M : Nat) (ofs0 seen : List Int) (S : LS) : Prop where
  taken : S.taken = flagsOf N S.chosen
  held : S.held = flagsOf M seen
  ofl : S.ofs.length = ofs0.length
  ofs : ∀ i : Nat, S.ofs.getD i 0 = if ofs0.getD i 0 = 2 ∧ (i : Int) ∈ S.chosen then 0 else ofs0.getD i 0
  cons : S.cons = S.chosen.filter fun x => ofs0.getD x.toNat 0 == 2
namespace Inv
variable {N M : Nat} {ofs0 seen : List Int} {S : LS}
theorem may (h : Inv N M ofs0 seen S) (x : Nat) : S.may (x : Int) = okOf ofs0 (x : Int) := by
  unfold LS.may okOf
  rw [Int.toNat_natCast, h.ofs x]
  by_cases e : ofs0.getD x 0 = 2 ∧ (x : Int) ∈ S.chosen
  · rw [if_pos e, e.1]
    rfl
  · rw [if_neg e]
theorem isTaken (h : Inv N M ofs0 seen S) (x : Nat) (hx : x < N) : S.isTaken (x : Int) = decide ((x : Int) ∈ S.chosen) := by
  unfold LS.isTaken
  rw [Int.toNat_natCast, h.taken, flagsOf_get N _ x hx]
theorem isHeld (h : Inv N M ofs0 seen S) (d : Nat) (hd : d < M) : S.isHeld (d : Int) = decide ((d : Int) ∈ seen) := by
  unfold LS.isHeld
  rw [Int.toNat_natCast, h.held, flagsOf_get M _ d hd]
theorem metOld (h : Inv N M ofs0 seen S) (x : Nat) (hm : (x : Int) ∈ S.chosen) : S.met (x : Int) = S := by
  unfold LS.met
  rw [Int.toNat_natCast, if_neg]
  rw [h.ofs x]
  by_cases e : ofs0.getD x 0 = 2
  · rw [if_pos ⟨e, hm⟩]; decide
  · rw [if_neg (fun z => e z.1)]; exact e
theorem hold (h : Inv N M ofs0 seen S) (d : Nat) (hd : d < M) : Inv N M ofs0 ((d : Int) :: seen) (S.hold (d : Int)) := by
  refine ⟨h.taken, ?_, h.ofl, h.ofs, h.cons⟩
  show S.held.set ((d : Int).toNat) true = _
  rw [Int.toNat_natCast, h.held, flagsOf_set M _ d hd]
  exact flagsOf_congr M fun x => by simp [or_comm]
theorem takeNew (h : Inv N M ofs0 seen S) (x : Nat) (hx : x < N) (hm : (x : Int) ∉ S.chosen) : Inv N M ofs0 seen ((S.met (x : Int)).take (x : Int)) := by
  have hox : S.ofs.getD x 0 = ofs0.getD x 0 := by rw [h.ofs x, if_neg (fun z => hm z.2)]
  by_cases e : ofs0.getD x 0 = 2
  · have hl : x < S.ofs.length := Classical.byContradiction fun hn => by
      rw [List.getD_eq_getElem?_getD, List.getElem?_eq_none (by omega)] at hox
      rw [← hox] at e
      cases e
    have em : S.met (x : Int) = { S with ofs := S.ofs.set x 0, cons := S.cons ++ [(x : Int)] } := by
      unfold LS.met
      rw [Int.toNat_natCast, if_pos (by rw [hox]; exact e)]
    rw [em]
    refine ⟨?_, h.held, by simpa [LS.take] using h.ofl, fun i => ?_, ?_⟩
    · show S.taken.set ((x : Int).toNat) true = _
      rw [Int.toNat_natCast, h.taken, flagsOf_set N _ x hx]
      rfl
    · show (S.ofs.set x 0).getD i 0 = if ofs0.getD i 0 = 2 ∧ (i : Int) ∈ S.chosen ++ [(x : Int)] then 0 else ofs0.getD i 0
      rw [getD_set]
      by_cases ei : x = i
      · subst ei
        rw [if_pos ⟨rfl, hl⟩, if_pos ⟨e, by simp⟩]
      · rw [if_neg (fun z => ei z.1), h.ofs i]
        have : ((i : Int) ∈ S.chosen ++ [(x : Int)]) ↔ (i : Int) ∈ S.chosen := by
          rw [List.mem_append, List.mem_singleton]
          exact ⟨fun h => h.elim id (fun h => by omega), .inl⟩
        simp only [this]
    · show S.cons ++ [(x : Int)] = (S.chosen ++ [(x : Int)]).filter _
      have e' : ofs0[x]?.getD 0 = 2 := by rw [← List.getD_eq_getElem?_getD]; exact e
      rw [List.filter_append, ← h.cons]
      simp [e']
  · have em : S.met (x : Int) = S := by
      unfold LS.met
      rw [Int.toNat_natCast, if_neg (by rw [hox]; exact e)]
    rw [em]
    refine ⟨?_, h.held, h.ofl, fun i => ?_, ?_⟩
    · show S.taken.set ((x : Int).toNat) true = _
      rw [Int.toNat_natCast, h.taken, flagsOf_set N _ x hx]
      rfl
    · show S.ofs.getD i 0 = if ofs0.getD i 0 = 2 ∧ (i : Int) ∈ S.chosen ++ [(x : Int)] then 0 else ofs0.getD i 0
      rw [h.ofs i]
      by_cases ei : x = i
      · subst ei
        rw [if_neg (fun z => e z.1), if_neg (fun z => e z.1)]
      · have : ((i : Int) ∈ S.chosen ++ [(x : Int)]) ↔ (i : Int) ∈ S.chosen := by
          rw [List.mem_append, List.mem_singleton]
          exact ⟨fun h => h.elim id (fun h => by omega), .inl⟩
        simp only [this]
    · show S.cons = (S.chosen ++ [(x : Int)]).filter _
      have e' : ¬ ofs0[x]?.getD 0 = 2 := by rw [← List.getD_eq_getElem?_getD]; exact e
      rw [List.filter_append, ← h.cons]
      simp [e']
theorem clear (h : Inv N M ofs0 seen S) : Inv N M ofs0 [] S.clear := by
  refine ⟨h.taken, ?_, h.ofl, h.ofs, h.cons⟩
  show List.replicate S.held.length false = _
  rw [h.held, flagsOf_length, flagsOf_nil]
end Inv

/-- The nodes of a walk lie below N, their datacenters below M. -/
def Walks (N M : Nat) (dc seq : List Int) : Prop := ∀ x ∈ seq, ∃ k : Nat, x = (k : Int) ∧ k < N ∧ ∃ d : Nat, dcAt dc x = (d : Int) ∧ d < M
theorem Walks.tail {N M : Nat} {dc : List Int} {x : Int} {xs : List Int} (h : Walks N M dc (x :: xs)) : Walks N M dc xs := fun y hy => h y (List.mem_cons_of_mem _ hy)

theorem run1_inv (N M : Nat) (ofs0 dc : List Int) (D : Int) : ∀ (seq seen : List Int) (S : LS), Walks N M dc seq → Inv N M ofs0 seen S → (∀ y ∈ S.chosen, dcAt dc y ∈ seen) →
    (∃ seen', Inv N M ofs0 seen' (run1 dc D seq S)) ∧ (run1 dc D seq S).chosen = loopA (dcAt dc) (okOf ofs0) (stop1 D) act1 seq seen S.chosen
  | [], seen, S, _, hI, _ => ⟨⟨seen, hI⟩, rfl⟩
  | x :: xs, seen, S, hW, hI, hs => by
    obtain ⟨k, rfl, hk, d, hd, hdM⟩ := hW x (List.mem_cons_self ..)
    rw [run1, loopA]
    by_cases hlt : (S.chosen.length : Int) < D
    · have e1 : stop1 D S.chosen = false := by simp [stop1, hlt]
      rw [if_pos hlt, if_neg (by rw [e1]; simp)]
      by_cases h : okOf ofs0 (k : Int) = true ∧ dcAt dc (k : Int) ∉ seen
      · have hm : (k : Int) ∉ S.chosen := fun hm => h.2 (hs _ hm)
        have e2 : step1 dc (k : Int) S = ((S.met (k : Int)).hold (d : Int)).take (k : Int) := by
          have c1 : S.isHeld (d : Int) = false := by
            rw [hI.isHeld d hdM]
            exact decide_eq_false (by rw [← hd]; exact h.2)
          unfold step1
          rw [hd, if_pos ⟨c1, by rw [hI.may]; exact h.1⟩]
        have e3 : ((S.met (k : Int)).hold (d : Int)).take (k : Int) = ((S.met (k : Int)).take (k : Int)).hold (d : Int) := rfl
        rw [if_pos h, e2, e3, hd]
        refine run1_inv N M ofs0 dc D xs _ _ hW.tail ((hI.takeNew k hk hm).hold d hdM) ?_ |>.imp id fun e => ?_
        · intro y hy
          have hy' : y ∈ (S.met (k : Int)).chosen ++ [(k : Int)] := hy
          rw [met_chosen] at hy'
          rcases List.mem_append.1 hy' with h1 | h1
          · exact List.mem_cons_of_mem _ (hs y h1)
          · rw [List.mem_singleton.1 h1, hd]; exact List.mem_cons_self ..
        · rw [e]
          show loopA _ _ _ _ xs _ ((S.met (k : Int)).chosen ++ [(k : Int)]) = _
          rw [met_chosen, act1]
      · have e2 : step1 dc (k : Int) S = S := by
          unfold step1
          rw [if_neg]
          intro z
          apply h
          rw [hd, hI.isHeld d hdM, hI.may] at z
          refine ⟨z.2, ?_⟩
          rw [hd]
          simpa using z.1
        rw [if_neg h, e2]
        exact run1_inv N M ofs0 dc D xs seen S hW.tail hI hs
    · have e1 : stop1 D S.chosen = true := by simp [stop1]; omega
      rw [if_neg hlt, if_pos e1]
      exact ⟨⟨seen, hI⟩, rfl⟩

theorem run2_inv (N M : Nat) (ofs0 dc : List Int) (n D : Int) : ∀ (seq seen : List Int) (m : Nat) (S : LS), Walks N M dc seq → Inv N M ofs0 seen S →
    (∃ seen', Inv N M ofs0 seen' (run2 dc n D seq m S)) ∧ (run2 dc n D seq m S).chosen = (loopA (dcAt dc) (okOf ofs0) (stop2 n D) act2 seq seen (S.chosen, m)).1
  | [], seen, m, S, _, hI => ⟨⟨seen, hI⟩, rfl⟩
  | x :: xs, seen, m, S, hW, hI => by
    obtain ⟨k, rfl, hk, d, hd, hdM⟩ := hW x (List.mem_cons_self ..)
    rw [run2, loopA]
    by_cases hlt : (S.chosen.length : Int) < n ∧ (m : Int) < D
    · have e1 : stop2 n D (S.chosen, m) = false := by simp [stop2, hlt]
      rw [if_pos hlt, e1, if_neg (show ¬ (false = true) from Bool.false_ne_true)]
      by_cases h : okOf ofs0 (k : Int) = true ∧ dcAt dc (k : Int) ∉ seen
      · have c1 : S.isHeld (dcAt dc (k : Int)) = false ∧ S.may (k : Int) = true := by
          refine ⟨?_, by rw [hI.may]; exact h.1⟩
          rw [hd, hI.isHeld d hdM, decide_eq_false]
          rw [← hd]; exact h.2
        rw [if_pos c1, if_pos h, hd]
        by_cases hm : (k : Int) ∈ S.chosen
        · have em := hI.metOld k hm
          have e2 : step2 dc (k : Int) S = S.hold (d : Int) := by
            unfold step2
            rw [em, if_neg (by rw [hI.isTaken k hk]; simpa using hm), hd]
          have e3 : act2 (k : Int) (S.chosen, m) = (S.chosen, m + 1) := by simp [act2, act3, hm]
          rw [e2, e3]
          exact run2_inv N M ofs0 dc n D xs _ (m + 1) _ hW.tail (hI.hold d hdM)
        · have e2 : step2 dc (k : Int) S = ((S.met (k : Int)).take (k : Int)).hold (d : Int) := by
            unfold step2
            have : (S.met (k : Int)).isTaken (k : Int) = S.isTaken (k : Int) := by
              unfold LS.isTaken LS.met
              split <;> rfl
            rw [this, if_pos (by rw [hI.isTaken k hk]; simpa using hm), hd]
            rfl
          have e3 : act2 (k : Int) (S.chosen, m) = (S.chosen ++ [(k : Int)], m + 1) := by simp [act2, act3, hm]
          rw [e2, e3]
          have r := run2_inv N M ofs0 dc n D xs _ (m + 1) _ hW.tail ((hI.takeNew k hk hm).hold d hdM)
          refine ⟨r.1, ?_⟩
          rw [r.2]
          show (loopA _ _ _ _ xs _ ((S.met (k : Int)).chosen ++ [(k : Int)], m + 1)).1 = _
          rw [met_chosen]
      · have c1 : ¬ (S.isHeld (dcAt dc (k : Int)) = false ∧ S.may (k : Int) = true) := by
          intro z
          apply h
          rw [hd, hI.isHeld d hdM, hI.may] at z
          refine ⟨z.2, ?_⟩
          rw [hd]
          simpa using z.1
        rw [if_neg c1, if_neg h]
        exact run2_inv N M ofs0 dc n D xs seen m S hW.tail hI
    · have e1 : stop2 n D (S.chosen, m) = true := by
        simp only [stop2, Bool.not_eq_true', Bool.and_eq_false_iff, decide_eq_false_iff_not]
        omega
      rw [if_neg hlt, if_pos e1]
      exact ⟨⟨seen, hI⟩, rfl⟩

theorem run3_inv (N M : Nat) (ofs0 dc : List Int) (count : Int) : ∀ (seq seen sn : List Int) (S : LS), Walks N M dc seq → Inv N M ofs0 seen S → (∀ y ∈ sn, y ∈ S.chosen) →
    Inv N M ofs0 seen (run3 count seq S) ∧ (run3 count seq S).chosen = loopA id (okOf ofs0) (stop1 count) act3 seq sn S.chosen
  | [], seen, sn, S, _, hI, _ => ⟨hI, rfl⟩
  | x :: xs, seen, sn, S, hW, hI, hs => by
    obtain ⟨k, rfl, hk, d, hd, hdM⟩ := hW x (List.mem_cons_self ..)
    rw [run3, loopA]
    by_cases hlt : (S.chosen.length : Int) < count
    · have e1 : stop1 count S.chosen = false := by simp [stop1, hlt]
      rw [if_pos hlt, if_neg (by rw [e1]; simp)]
      by_cases hm : (k : Int) ∈ S.chosen
      · have e2 : step3 (k : Int) S = S := by
          unfold step3
          rw [if_neg]
          rw [hI.isTaken k hk, decide_eq_true hm]
          simp
        rw [e2]
        by_cases h : okOf ofs0 (k : Int) = true ∧ id (k : Int) ∉ sn
        · have e3 : act3 (k : Int) S.chosen = S.chosen := by simp [act3, hm]
          rw [if_pos h, e3]
          exact run3_inv N M ofs0 dc count xs seen _ S hW.tail hI fun y hy => (List.mem_cons.1 hy).elim (fun e => e ▸ hm) (hs y)
        · rw [if_neg h]
          exact run3_inv N M ofs0 dc count xs seen sn S hW.tail hI hs
      · by_cases ho : okOf ofs0 (k : Int) = true
        · have h : okOf ofs0 (k : Int) = true ∧ id (k : Int) ∉ sn := ⟨ho, fun z => hm (hs _ z)⟩
          have e2 : step3 (k : Int) S = (S.met (k : Int)).take (k : Int) := by
            unfold step3
            rw [if_pos ⟨by rw [hI.isTaken k hk]; simpa using hm, by rw [hI.may]; exact ho⟩]
          have e3 : act3 (k : Int) S.chosen = S.chosen ++ [(k : Int)] := by simp [act3, hm]
          have hc : ((S.met (k : Int)).take (k : Int)).chosen = S.chosen ++ [(k : Int)] := by
            show (S.met (k : Int)).chosen ++ [(k : Int)] = _
            rw [met_chosen]
          rw [if_pos h, e2, e3]
          have r := run3_inv N M ofs0 dc count xs seen (id (k : Int) :: sn) _ hW.tail (hI.takeNew k hk hm) (fun y hy => by
            rw [hc]
            exact (List.mem_cons.1 hy).elim (fun e => List.mem_append_right _ (List.mem_singleton.2 e)) (fun h => List.mem_append_left _ (hs y h)))
          rw [hc] at r
          exact r
        · have e2 : step3 (k : Int) S = S := by
            unfold step3
            rw [if_neg]
            rw [hI.may]
            exact fun z => ho z.2
          rw [if_neg (fun z => ho z.1), e2]
          exact run3_inv N M ofs0 dc count xs seen sn S hW.tail hI hs
    · have e1 : stop1 count S.chosen = true := by simp [stop1]; omega
      rw [if_neg hlt, if_pos e1]
      exact ⟨hI, rfl⟩

/-- list is the model. -/
theorem listed_inv (N M : Nat) (ofs0 dc pts pks : List Int) (up pf : Bool) (D n count : Int) (wk pick : Nat) (S : LS) (hS : Inv N M ofs0 [] S) (hc : S.chosen = []) (hp : Walks N M dc (rot pts wk)) (hk : Walks N M dc (rot pks pick)) :
    Inv N M ofs0 [] (listed dc pts pks up pf D n count wk pick S) ∧ (listed dc pts pks up pf D n count wk pick S).chosen = modelL dc pts pks ofs0 up pf D n count wk pick := by
  unfold listed phases modelL
  -- the first phase
  obtain ⟨S1, hS1⟩ : ∃ S1, S1 = if pf = true ∧ up = true ∧ D < n then (run1 dc D (rot pts wk) S).clear else S := ⟨_, rfl⟩
  have h1 : Inv N M ofs0 [] S1 ∧ S1.chosen = if pf = true ∧ up = true ∧ D < n then loopB (stop1 D) act1 (repsFrom (dcAt dc) (okOf ofs0) [] (rot pts wk)) [] else [] := by
    by_cases h : pf = true ∧ up = true ∧ D < n
    · rw [if_pos h] at hS1 ⊢
      have r := run1_inv N M ofs0 dc D (rot pts wk) [] S hp hS (fun y hy => by rw [hc] at hy; cases hy)
      obtain ⟨⟨seen', hI⟩, hch⟩ := r
      rw [hS1]
      refine ⟨hI.clear, ?_⟩
      rw [hc] at hch
      rw [← loopA_eq]
      exact hch
    · rw [if_neg h] at hS1 ⊢
      rw [hS1]
      exact ⟨hS, hc⟩
  obtain ⟨S2, hS2⟩ : ∃ S2, S2 = if up = true then (run2 dc n D (rot pks pick) 0 S1).clear else S1 := ⟨_, rfl⟩
  have h2 : Inv N M ofs0 [] S2 ∧ S2.chosen = if up = true then (loopB (stop2 n D) act2 (repsFrom (dcAt dc) (okOf ofs0) [] (rot pks pick)) (S1.chosen, 0)).1 else S1.chosen := by
    by_cases h : up = true
    · rw [if_pos h] at hS2 ⊢
      have r := run2_inv N M ofs0 dc n D (rot pks pick) [] 0 S1 hk h1.1
      obtain ⟨⟨seen', hI⟩, hch⟩ := r
      rw [hS2]
      refine ⟨hI.clear, ?_⟩
      rw [← loopA_eq]
      exact hch
    · rw [if_neg h] at hS2 ⊢
      rw [hS2]
      exact ⟨h1.1, rfl⟩
  have r := run3_inv N M ofs0 dc count (rot pts wk) [] [] S2 hp h2.1 (fun y hy => by cases hy)
  rw [h2.2, h1.2, loopA_eq, hS2, hS1] at r
  exact r
#print axioms listed_inv
end Go.Proofs.Qxb6604780a
