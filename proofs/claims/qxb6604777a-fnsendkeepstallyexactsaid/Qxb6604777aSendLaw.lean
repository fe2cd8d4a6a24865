/-
  The plain laws of send: a column moved by one entry; the supports behind it.
-/
import Derived.Test.Qxb6604777aShow
import Derived.Test.Qxb6604777aTally
namespace Go.Proofs.Qxb6604777a
set_option linter.unusedSimpArgs false
set_option linter.unusedVariables false

section
variable {pre emp : List ByteArray} {x r : ByteArray}
theorem presC_mid (he : ∀ y ∈ emp, nem y = false) : presC (pre ++ x :: emp) = presC pre + if nem x then 1 else 0 := by
  have : emp.countP nem = 0 := List.countP_eq_zero.2 fun y hy => by rw [he y hy]; decide
  simp [presC, List.countP_append, List.countP_cons, this]
theorem eqW_mid (he : ∀ y ∈ emp, nem y = false) : eqW r (pre ++ x :: emp) = eqW r pre + if (nem x && x.toList == r.toList) then 1 else 0 := by
  have : (emp.countP fun y => nem y && y.toList == r.toList) = 0 := List.countP_eq_zero.2 fun y hy => by rw [he y hy]; simp
  simp only [eqW, List.countP_append, List.countP_cons, this]
  omega
theorem refC_emp : ∀ {emp : List ByteArray}, (∀ y ∈ emp, nem y = false) → refC emp = ⟨#[]⟩
  | [], _ => rfl
  | y :: l, h => by
    simp only [refC, h y (by simp), Bool.false_eq_true, if_false]
    exact refC_emp fun z hz => h z (by simp [hz])
theorem refC_mid (he : ∀ y ∈ emp, nem y = false) : refC (pre ++ x :: emp) = if presC pre = 0 then (if nem x then x else ⟨#[]⟩) else refC pre := by
  rw [refC_app]
  split
  · simp only [refC, refC_emp he]
  · rfl
theorem eqW_zero (h : presC pre = 0) : eqW r pre = 0 := by
  have : eqW r pre ≤ presC pre := List.countP_mono_left fun x _ h => by
    simp only [Bool.and_eq_true] at h; exact h.1
  omega
end

theorem show_law (pre emp : List ByteArray) (old v : ByteArray) (he : ∀ y ∈ emp, nem y = false) :
    shP (presC (pre ++ old :: emp) : Int) old v = (presC (pre ++ v :: emp) : Int) ∧
    shE (presC (pre ++ old :: emp) : Int) (eqC (pre ++ old :: emp) : Int) (refC (pre ++ old :: emp)) old v = (eqC (pre ++ v :: emp) : Int) ∧
    (presC (pre ++ v :: emp) ≠ 0 → shR (presC (pre ++ old :: emp) : Int) (refC (pre ++ old :: emp)) old v = refC (pre ++ v :: emp)) := by
  have hp1 : shP1 (presC (pre ++ old :: emp) : Int) old = (presC pre : Int) := by
    unfold shP1
    rw [presC_mid he]
    split <;> simp
  have he1 : shE1 (eqC (pre ++ old :: emp) : Int) (refC (pre ++ old :: emp)) old = (eqW (refC (pre ++ old :: emp)) pre : Int) := by
    unfold shE1 eqC
    rw [eqW_mid he]
    split <;> simp
  have hR : shR (presC (pre ++ old :: emp) : Int) (refC (pre ++ old :: emp)) old v = if nem v && presC pre == 0 then v else refC (pre ++ old :: emp) := by
    unfold shR
    rw [hp1]
    have : ((presC pre : Int) == 0) = (presC pre == 0) := by rw [Bool.eq_iff_iff]; simp
    rw [this]
  refine ⟨?_, ?_, ?_⟩
  · unfold shP
    rw [hp1, presC_mid he]
    split <;> simp
  · unfold shE
    rw [hR, he1]
    unfold eqC
    rw [eqW_mid he, refC_mid he, refC_mid he]
    by_cases h0 : presC pre = 0
    · rw [if_pos h0, if_pos h0, eqW_zero h0, eqW_zero h0]
      by_cases hv : nem v = true
      · simp [hv, h0]
      · have hv' : nem v = false := by simpa using hv
        simp [hv']
    · rw [if_neg h0, if_neg h0]
      have : (presC pre == 0) = false := by simpa using h0
      rw [this, Bool.and_false]
      simp only [Bool.false_eq_true, if_false]
      split <;> simp
  · intro hne
    rw [hR, refC_mid he, refC_mid he]
    rw [presC_mid he] at hne
    by_cases h0 : presC pre = 0
    · have hv : nem v = true := by
        by_cases hv : nem v = true
        · exact hv
        · rw [h0, if_neg hv] at hne; omega
      simp [h0, hv]
    · have : (presC pre == 0) = false := by simpa using h0
      rw [this, Bool.and_false, if_neg (by decide), if_neg h0, if_neg h0]

/-! ### The rows behind a send -/

theorem colAt_set_far (M : Nat) (rec : List ByteArray) (f f' c : Nat) (v : ByteArray) (hc : c < M) (hf : f' ≠ f) : colAt (rec.set (f * M + c) v) (f' * M) M = colAt rec (f' * M) M := by
  unfold colAt
  apply List.ext_getElem
  · simp
  · intro i h1 h2
    rw [List.length_take, List.length_drop, List.length_set] at h1
    rw [List.getElem_take, List.getElem_drop, List.getElem_take, List.getElem_drop, List.getElem_set_ne]
    intro h
    have := index_inj hc (show i < M by omega) h
    exact hf this.1.symm
theorem colAt_set_split (M : Nat) (rec : List ByteArray) (f c : Nat) (v : ByteArray) (hc : c < M) (h : f * M + M ≤ rec.length) :
    colAt (rec.set (f * M + c) v) (f * M) M = colAt rec (f * M) c ++ v :: (rec.drop (f * M + c + 1)).take (M - c - 1) := by
  rw [colAt_split _ _ c M hc (by rw [List.length_set]; exact h), List.getElem_set_self, List.drop_set_of_lt (by omega)]
  congr 1
  unfold colAt
  apply List.ext_getElem
  · simp
  · intro i h1 h2
    rw [List.length_take, List.length_drop, List.length_set] at h1
    rw [List.getElem_take, List.getElem_drop, List.getElem_take, List.getElem_drop, List.getElem_set_ne (by omega)]

/-- Behind entry c of column f nothing is held. -/
def EmptyPast (M : Nat) (rec : List ByteArray) (f c : Nat) : Prop := ∀ j, c < j → j < M → nem (rec.getD (f * M + j) emptyS) = false
theorem emptyPast_tail (M : Nat) (rec : List ByteArray) (f c : Nat) (hc : c < M) (hr : f * M + M ≤ rec.length) (h : EmptyPast M rec f c) : ∀ y ∈ (rec.drop (f * M + c + 1)).take (M - c - 1), nem y = false := by
  intro y hy
  obtain ⟨i, hi, rfl⟩ := List.getElem_of_mem hy
  rw [List.length_take, List.length_drop] at hi
  have := h (c + 1 + i) (by omega) (by omega)
  rw [List.getD_eq_getElem?_getD, List.getElem?_eq_getElem (by omega), Option.getD_some] at this
  rw [List.getElem_take, List.getElem_drop]
  rw [← this]
  congr 1
  congr 1
  omega

section
variable (M K : Nat) (rec : List ByteArray) (f c : Nat) (v : ByteArray)
theorem map_range_set {α : Type} (K f : Nat) (F G : Nat → α) (hf : f < K) (h : ∀ g, g ≠ f → G g = F g) : (List.range K).map G = ((List.range K).map F).set f (G f) := by
  apply List.ext_getElem
  · simp
  · intro i h1 h2
    rw [List.getElem_set]
    split
    · rename_i e; subst e; simp
    · rename_i e; simp [h i (fun h => e h.symm)]
theorem presL_set (hf : f < K) (hc : c < M) : presL M (rec.set (f * M + c) v) K = (presL M rec K).set f (presC (colAt (rec.set (f * M + c) v) (f * M) M) : Int) :=
  map_range_set K f _ _ hf fun g hg => by rw [colAt_set_far M rec f g c v hc hg]
theorem eqL_set (hf : f < K) (hc : c < M) : eqL M (rec.set (f * M + c) v) K = (eqL M rec K).set f (eqC (colAt (rec.set (f * M + c) v) (f * M) M) : Int) :=
  map_range_set K f _ _ hf fun g hg => by rw [colAt_set_far M rec f g c v hc hg]
theorem refL_at (hf : f < K) : (refL M rec K).getD f emptyS = refC (colAt rec (f * M) M) := by simp [refL, hf]
end

/-- The summaries that show leaves are those of the new entries; the reference where something is held. -/
theorem send_shown (M K : Nat) (rec : List ByteArray) (f c : Nat) (v : ByteArray) (hf : f < K) (hc : c < M) (hr : f * M + M ≤ rec.length) (he : EmptyPast M rec f c) :
    shP ((presL M rec K).getD f 0) (rec.getD (f * M + c) emptyS) v = (presC (colAt (rec.set (f * M + c) v) (f * M) M) : Int) ∧
    shE ((presL M rec K).getD f 0) ((eqL M rec K).getD f 0) ((refL M rec K).getD f emptyS) (rec.getD (f * M + c) emptyS) v = (eqC (colAt (rec.set (f * M + c) v) (f * M) M) : Int) ∧
    (presC (colAt (rec.set (f * M + c) v) (f * M) M) ≠ 0 → shR ((presL M rec K).getD f 0) ((refL M rec K).getD f emptyS) (rec.getD (f * M + c) emptyS) v = refC (colAt (rec.set (f * M + c) v) (f * M) M)) := by
  have ht := emptyPast_tail M rec f c hc hr he
  have hold : rec.getD (f * M + c) emptyS = rec[f * M + c] := by rw [List.getD_eq_getElem?_getD, List.getElem?_eq_getElem (by omega)]; rfl
  rw [presL_at M rec K f hf, eqL_at M rec K f hf, refL_at M K rec f hf, hold, colAt_set_split M rec f c v hc hr, colAt_split rec (f * M) c M hc hr]
  exact show_law _ _ _ v ht

/-! ### The supports -/
/-- What the entry of f at o adds behind the send, less what it added before. -/
def sendD (M : Nat) (inputs rec rec' : List ByteArray) (f o : Nat) (ag ag' : Bool) : Int :=
  cntV (rec'.getD (f * M + o) emptyS) (inputs.getD o emptyS) ag' false - cntV (rec.getD (f * M + o) emptyS) (inputs.getD o emptyS) ag false
/-- The supports in the midst of the loop over the others: c is done, and the first k. -/
def sendM (M : Nat) (sup : List Int) (c k : Nat) (d : Nat → Int) : List Int := (List.range M).map fun o => sup.getD o 0 + if o = c ∨ o < k then d o else 0

theorem sendM_length (M : Nat) (sup : List Int) (c k : Nat) (d : Nat → Int) : (sendM M sup c k d).length = M := by simp [sendM]
theorem sendM_at (M : Nat) (sup : List Int) (c k o : Nat) (d : Nat → Int) (h : o < (sendM M sup c k d).length) : (sendM M sup c k d)[o] = sup.getD o 0 + if o = c ∨ o < k then d o else 0 := by simp [sendM]
theorem sendM_zero (M : Nat) (sup : List Int) (c : Nat) (d : Nat → Int) (hl : sup.length = M) (hc : c < M) : sendM M sup c 0 d = sup.set c (sup.getD c 0 + d c) := by
  apply List.ext_getElem
  · simp [sendM, hl]
  · intro i h1 h2
    rw [sendM_at, List.getElem_set]
    by_cases e : c = i
    · subst e; simp
    · rw [if_neg (by omega), if_neg e, List.getD_eq_getElem?_getD, List.getElem?_eq_getElem (by rw [sendM_length] at h1; omega)]
      simp
theorem sendM_self (M : Nat) (sup : List Int) (c : Nat) (d : Nat → Int) : sendM M sup c (c + 1) d = sendM M sup c c d := by
  unfold sendM
  refine List.map_congr_left fun o _ => ?_
  by_cases h : o = c ∨ o < c
  · rw [if_pos h, if_pos (by omega)]
  · rw [if_neg h, if_neg (by omega)]
theorem sendM_succ (M : Nat) (sup : List Int) (c k : Nat) (d : Nat → Int) (hk : k ≠ c) (hkM : k < M) : sendM M sup c (k + 1) d = (sendM M sup c k d).set k (sup.getD k 0 + d k) := by
  apply List.ext_getElem
  · simp [sendM]
  · intro i h1 h2
    rw [sendM_at, List.getElem_set, sendM_at]
    by_cases e : k = i
    · subst e; rw [if_pos rfl, if_pos (by omega)]
    · rw [if_neg e]
      by_cases h : i = c ∨ i < k
      · rw [if_pos h, if_pos (by omega)]
      · rw [if_neg h, if_neg (by omega)]
theorem sendM_still (M : Nat) (sup : List Int) (c k : Nat) (d : Nat → Int) (h : ∀ o, o < M → o ≠ c → d o = 0) : sendM M sup c k d = sendM M sup c 0 d := by
  unfold sendM
  refine List.map_congr_left fun o ho => ?_
  rw [List.mem_range] at ho
  by_cases e : o = c
  · rw [if_pos (.inl e), if_pos (.inl e)]
  · rw [h o ho e]
    split <;> split <;> rfl

theorem cntV_contr (M : Nat) (inputs rec : List ByteArray) (f o : Nat) (hin : nem (inputs.getD o emptyS) = true) :
    cntV (rec.getD (f * M + o) emptyS) (inputs.getD o emptyS) (agrC (colAt rec (f * M) M)) false = ((if contr M inputs rec none f o then 1 else 0 : Nat) : Int) := by
  have := cntB_contr M inputs rec none f o hin
  unfold cntV
  rw [show (false : Bool) = voidAt none (f * M + o) from rfl, this]
  split <;> rfl

theorem send_law (M K : Nat) (inputs rec : List ByteArray) (f c : Nat) (v : ByteArray) (hf : f < K) (hc : c < M) (hin : ∀ o, o < M → nem (inputs.getD o emptyS) = true) :
    supL M inputs (rec.set (f * M + c) v) none K = sendM M (supL M inputs rec none K) c M (fun o => sendD M inputs rec (rec.set (f * M + c) v) f o (agrC (colAt rec (f * M) M)) (agrC (colAt (rec.set (f * M + c) v) (f * M) M))) := by
  apply List.ext_getElem
  · simp [supL, sendM]
  · intro o h1 h2
    rw [supL_length] at h1
    rw [sendM_at, if_pos (by omega), supL_at M inputs rec none K o h1]
    have e1 : (supL M inputs (rec.set (f * M + c) v) none K)[o]'(by rw [supL_length]; exact h1) = ((List.range K).countP (fun f' => contr M inputs (rec.set (f * M + c) v) none f' o) : Int) := by simp [supL, supN]
    rw [e1]
    unfold sendD
    rw [cntV_contr M inputs rec f o (hin o h1), cntV_contr M inputs (rec.set (f * M + c) v) f o (hin o h1)]
    have hc1 := count_one (fun f' => contr M inputs rec none f' o) (fun f' => contr M inputs (rec.set (f * M + c) v) none f' o) f (fun x hx => by
      show contr M inputs (rec.set (f * M + c) v) none x o = contr M inputs rec none x o
      unfold contr
      rw [colAt_set_far M rec f x c v hc hx, getD_set_ne]
      intro h
      have := index_inj h1 hc h
      exact hx this.1) K hf
    unfold supN
    omega

#print axioms send_law
#print axioms send_shown
end Go.Proofs.Qxb6604777a
