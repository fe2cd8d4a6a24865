/-
  Plain functions and laws for the tallies: no Go in sight.
-/
import Derived.Laws.Strings
namespace Go.Proofs.Qxb6604777a
set_option linter.unusedSimpArgs false
set_option linter.unusedVariables false

/-! ### A column of strings -/

/-- Is something held? -/
def nem (x : ByteArray) : Bool := !x.toList.isEmpty
theorem nem_true {x : ByteArray} (h : x.toList.isEmpty = false) : nem x = true := by simp [nem, h]
theorem nem_false {x : ByteArray} (h : x.toList.isEmpty = true) : nem x = false := by simp [nem, h]

/-- How many entries hold a value. -/
def presC (l : List ByteArray) : Nat := l.countP nem
/-- The first value held. -/
def refC : List ByteArray → ByteArray
  | [] => ⟨#[]⟩
  | x :: r => if nem x then x else refC r
/-- How many hold the value r. -/
def eqW (r : ByteArray) (l : List ByteArray) : Nat := l.countP fun x => nem x && x.toList == r.toList
/-- How many hold the first value held. -/
def eqC (l : List ByteArray) : Nat := eqW (refC l) l
/-- Every entry that holds a value holds the same one. -/
def agrC (l : List ByteArray) : Bool := l.all fun x => !nem x || x.toList == (refC l).toList

theorem nem_empty : nem ⟨#[]⟩ = false := by rw [nem, ByteArray.toList_eq]; rfl

theorem presC_snoc (l : List ByteArray) (x : ByteArray) : presC (l ++ [x]) = presC l + if nem x then 1 else 0 := by
  simp [presC, List.countP_append, List.countP_cons]
theorem presC_snoc_true {l : List ByteArray} {x : ByteArray} (h : nem x = true) : presC (l ++ [x]) = presC l + 1 := by rw [presC_snoc, if_pos h]
theorem presC_snoc_false {l : List ByteArray} {x : ByteArray} (h : nem x = false) : presC (l ++ [x]) = presC l := by rw [presC_snoc, if_neg (by simp [h])]; rfl
theorem presC_le (l : List ByteArray) : presC l ≤ l.length := List.countP_le_length

theorem eqW_snoc (r : ByteArray) (l : List ByteArray) (x : ByteArray) : eqW r (l ++ [x]) = eqW r l + if (nem x && x.toList == r.toList) then 1 else 0 := by
  simp [eqW, List.countP_append, List.countP_cons]
theorem eqW_snoc_true {r : ByteArray} {l : List ByteArray} {x : ByteArray} (h : nem x = true) (h2 : (x.toList == r.toList) = true) : eqW r (l ++ [x]) = eqW r l + 1 := by
  rw [eqW_snoc, if_pos (by simp only [h, h2, Bool.and_self])]
theorem eqW_snoc_false {r : ByteArray} {l : List ByteArray} {x : ByteArray} (h : nem x = false ∨ (x.toList == r.toList) = false) : eqW r (l ++ [x]) = eqW r l := by
  rw [eqW_snoc, if_neg (by rcases h with h | h <;> simp only [h, Bool.false_and, Bool.and_false, Bool.false_eq_true, not_false_eq_true])]
  rfl
theorem eqW_le (r : ByteArray) (l : List ByteArray) : eqW r l ≤ l.length := List.countP_le_length
theorem eqC_le (l : List ByteArray) : eqC l ≤ l.length := List.countP_le_length

theorem refC_none : ∀ {l : List ByteArray}, presC l = 0 → refC l = ⟨#[]⟩
  | [], _ => rfl
  | x :: r, h => by
    by_cases hx : nem x = true
    · simp [presC, hx] at h
    · have hx' : nem x = false := by simpa using hx
      simp only [refC, hx', Bool.false_eq_true, if_false]
      exact refC_none (by simpa [presC, List.countP_cons, hx'] using h)

theorem refC_some : ∀ {l : List ByteArray}, presC l ≠ 0 → nem (refC l) = true
  | [], h => by simp [presC] at h
  | x :: r, h => by
    by_cases hx : nem x = true
    · simp [refC, hx]
    · have hx' : nem x = false := by simpa using hx
      simp only [refC, hx', Bool.false_eq_true, if_false]
      exact refC_some (by simpa [presC, List.countP_cons, hx'] using h)

theorem refC_app : ∀ (l s : List ByteArray), refC (l ++ s) = if presC l = 0 then refC s else refC l
  | [], s => by simp [presC]
  | x :: r, s => by
    by_cases hx : nem x = true
    · simp [refC, hx, presC]
    · have hx' : nem x = false := by simpa using hx
      simp only [List.cons_append, refC, hx', Bool.false_eq_true, if_false]
      rw [refC_app r s]
      simp [presC, hx']

theorem refC_snoc_first {l : List ByteArray} {x : ByteArray} (h0 : presC l = 0) (hx : nem x = true) : refC (l ++ [x]) = x := by
  rw [refC_app, if_pos h0]; simp [refC, hx]
theorem refC_snoc_later {l : List ByteArray} {x : ByteArray} (h0 : presC l ≠ 0) : refC (l ++ [x]) = refC l := by
  rw [refC_app, if_neg h0]
theorem refC_snoc_empty {l : List ByteArray} {x : ByteArray} (hx : nem x = false) : refC (l ++ [x]) = refC l := by
  rw [refC_app]
  split
  · rename_i h; rw [refC_none h]; simp [refC, hx]
  · rfl

theorem presC_zero {l : List ByteArray} : presC l = 0 ↔ nem (refC l) = false := by
  constructor
  · intro h; rw [refC_none h]; exact nem_empty
  · intro h
    by_cases h0 : presC l = 0
    · exact h0
    · rw [refC_some h0] at h; cases h

/-- The counts agree exactly when the values do. -/
theorem agree_iff (l : List ByteArray) : (presC l == eqC l) = agrC l := by
  have h1 : ∀ (r : ByteArray) (l : List ByteArray), eqW r l ≤ presC l := fun r l => List.countP_mono_left fun x _ h => by
    simp only [Bool.and_eq_true] at h; exact h.1
  have key : ∀ (r : ByteArray) (l : List ByteArray), (presC l = eqW r l) ↔ (l.all fun x => !nem x || x.toList == r.toList) = true := by
    intro r l
    induction l with
    | nil => simp [presC, eqW]
    | cons x l ih =>
      have hle := h1 r l
      have ep : presC (x :: l) = presC l + if nem x then 1 else 0 := by simp [presC, List.countP_cons]
      have ee : eqW r (x :: l) = eqW r l + if (nem x && x.toList == r.toList) then 1 else 0 := by simp only [eqW, List.countP_cons]
      rw [List.all_cons, Bool.and_eq_true, ← ih, ep, ee]
      by_cases hx : nem x = true
      · by_cases hr : (x.toList == r.toList) = true
        · rw [if_pos hx, if_pos (by rw [hx, hr]; rfl)]
          simp [hr]
        · have hr' : (x.toList == r.toList) = false := by simpa using hr
          rw [if_pos hx, if_neg (by rw [hx, hr']; decide), hx, hr']
          constructor
          · intro h; omega
          · intro h; exact absurd h.1 (by decide)
      · have hx' : nem x = false := by simpa using hx
        rw [if_neg hx, if_neg (by rw [hx']; simp), hx']
        simp
  rw [Bool.eq_iff_iff, beq_iff_eq]
  exact key (refC l) l

theorem agrC_mem {l : List ByteArray} (h : agrC l = true) {x : ByteArray} (hx : x ∈ l) (hn : nem x = true) : x.toList = (refC l).toList := by
  have := List.all_eq_true.1 h x hx
  simpa [hn] using this

/-- A prefix whose values agree, and one value that parts from them. -/
theorem agrC_parts {l s : List ByteArray} {x : ByteArray} (h0 : presC l ≠ 0) (hx : nem x = true) (hne : (x.toList == (refC l).toList) = false) : agrC (l ++ x :: s) = false := by
  have hr : refC (l ++ x :: s) = refC l := by rw [refC_app, if_neg h0]
  rw [agrC, hr, List.all_append, List.all_cons]
  simp only [hx, hne, Bool.not_true, Bool.or_false, Bool.false_and, Bool.and_false]

theorem agrC_nil : agrC [] = true := rfl
theorem agrC_snoc_empty {l : List ByteArray} {x : ByteArray} (h : agrC l = true) (hx : nem x = false) : agrC (l ++ [x]) = true := by
  rw [agrC, refC_snoc_empty hx, List.all_append, Bool.and_eq_true]
  exact ⟨h, by simp [hx]⟩
theorem agrC_snoc_first {l : List ByteArray} {x : ByteArray} (h0 : presC l = 0) (hx : nem x = true) : agrC (l ++ [x]) = true := by
  rw [agrC, refC_snoc_first h0 hx, List.all_append, Bool.and_eq_true]
  refine ⟨List.all_eq_true.2 fun y hy => ?_, by simp⟩
  have : ¬ nem y = true := fun hn => by
    have := List.countP_pos_iff.2 ⟨y, hy, hn⟩
    unfold presC at h0
    omega
  simp [this]
theorem agrC_snoc_same {l : List ByteArray} {x : ByteArray} (h : agrC l = true) (h0 : presC l ≠ 0) (he : (x.toList == (refC l).toList) = true) : agrC (l ++ [x]) = true := by
  rw [agrC, refC_snoc_later h0, List.all_append, Bool.and_eq_true]
  exact ⟨h, by rw [List.all_cons, he]; simp⟩

/-- m entries from lo on. -/
def colAt (xs : List ByteArray) (lo m : Nat) : List ByteArray := (xs.drop lo).take m
theorem colAt_zero (xs : List ByteArray) (lo : Nat) : colAt xs lo 0 = [] := by simp [colAt]
theorem colAt_succ (xs : List ByteArray) (lo k : Nat) (h : lo + k < xs.length) : colAt xs lo (k + 1) = colAt xs lo k ++ [xs[lo + k]] := by
  unfold colAt
  rw [List.take_succ_eq_append_getElem (by rw [List.length_drop]; omega), List.getElem_drop]
theorem colAt_split (xs : List ByteArray) (lo k m : Nat) (hk : k < m) (h : lo + m ≤ xs.length) : colAt xs lo m = colAt xs lo k ++ xs[lo + k] :: (xs.drop (lo + k + 1)).take (m - k - 1) := by
  unfold colAt
  have e : m = k + (m - k - 1 + 1) := by omega
  conv => lhs; rw [e]
  rw [List.take_add, List.drop_drop, List.drop_eq_getElem_cons (i := lo + k) (by omega), List.take_succ_cons]
theorem colAt_length (xs : List ByteArray) (lo m : Nat) (h : lo + m ≤ xs.length) : (colAt xs lo m).length = m := by
  unfold colAt; rw [List.length_take, List.length_drop]; omega
theorem colAt_get (xs : List ByteArray) (lo m i : Nat) (hi : i < m) (h : lo + m ≤ xs.length) : (colAt xs lo m)[i]'(by rw [colAt_length _ _ _ h]; exact hi) = xs[lo + i] := by
  unfold colAt
  rw [List.getElem_take, List.getElem_drop]

/-! ### The mask: who is faulty -/

/-- How many of the mask are faulty; how many are correct. -/
def cT (mask : List Bool) : Nat := mask.countP id
def cF (mask : List Bool) : Nat := mask.countP not
theorem cT_snoc (l : List Bool) (b : Bool) : cT (l ++ [b]) = cT l + if b then 1 else 0 := by simp [cT, List.countP_append, List.countP_cons]
theorem cF_snoc (l : List Bool) (b : Bool) : cF (l ++ [b]) = cF l + if b then 0 else 1 := by cases b <;> simp [cF, List.countP_append]
theorem cT_add_cF (l : List Bool) : cT l + cF l = l.length := by
  induction l with
  | nil => rfl
  | cons b l ih => cases b <;> simp [cT, cF] at ih ⊢ <;> omega
theorem cT_le (l : List Bool) : cT l ≤ l.length := List.countP_le_length
theorem cF_le (l : List Bool) : cF l ≤ l.length := List.countP_le_length

/-- The place of number j in its list. -/
def place (mask : List Bool) (j : Nat) : Nat := if mask.getD j false then cT (mask.take j) else cF (mask.take j)
/-- The correct (the faulty) of the first k numbers, counted from one. -/
def corrK (mask : List Bool) (k : Nat) : List Int := ((List.range k).filter fun j => !mask.getD j false).map fun (j : Nat) => (j : Int) + 1
def faulK (mask : List Bool) (k : Nat) : List Int := ((List.range k).filter fun j => mask.getD j false).map fun (j : Nat) => (j : Int) + 1
def idxK (mask : List Bool) (k : Nat) : List Int := (List.range k).map fun (j : Nat) => (place mask j : Int)

theorem corrK_succ (mask : List Bool) (k : Nat) : corrK mask (k + 1) = corrK mask k ++ if mask.getD k false then [] else [(k : Int) + 1] := by
  unfold corrK
  rw [List.range_succ, List.filter_append, List.map_append]
  cases h : mask.getD k false <;> simp only [List.filter_cons, h, List.filter_nil, Bool.not_false, Bool.not_true, Bool.false_eq_true, if_true, if_false, List.map_cons, List.map_nil]
theorem faulK_succ (mask : List Bool) (k : Nat) : faulK mask (k + 1) = faulK mask k ++ if mask.getD k false then [(k : Int) + 1] else [] := by
  unfold faulK
  rw [List.range_succ, List.filter_append, List.map_append]
  cases h : mask.getD k false <;> simp only [List.filter_cons, h, List.filter_nil, Bool.not_false, Bool.not_true, Bool.false_eq_true, if_true, if_false, List.map_cons, List.map_nil]
theorem idxK_succ (mask : List Bool) (k : Nat) : idxK mask (k + 1) = idxK mask k ++ [(place mask k : Int)] := by
  unfold idxK
  rw [List.range_succ, List.map_append]
  rfl
theorem take_snoc_bool (mask : List Bool) (k : Nat) (h : k < mask.length) : mask.take (k + 1) = mask.take k ++ [mask[k]] := List.take_succ_eq_append_getElem h
theorem getD_bool (mask : List Bool) (k : Nat) (h : k < mask.length) : mask.getD k false = mask[k] := by
  rw [List.getD_eq_getElem?_getD, List.getElem?_eq_getElem h]; rfl

theorem corrK_length (mask : List Bool) : ∀ k, k ≤ mask.length → (corrK mask k).length = cF (mask.take k)
  | 0, _ => by simp [corrK, cF]
  | k + 1, h => by
    rw [corrK_succ, take_snoc_bool mask k (by omega), cF_snoc, List.length_append, corrK_length mask k (by omega), getD_bool mask k (by omega)]
    cases mask[k] <;> simp
theorem faulK_length (mask : List Bool) : ∀ k, k ≤ mask.length → (faulK mask k).length = cT (mask.take k)
  | 0, _ => by simp [faulK, cT]
  | k + 1, h => by
    rw [faulK_succ, take_snoc_bool mask k (by omega), cT_snoc, List.length_append, faulK_length mask k (by omega), getD_bool mask k (by omega)]
    cases mask[k] <;> simp
theorem idxK_length (mask : List Bool) (k : Nat) : (idxK mask k).length = k := by simp [idxK]
theorem idxK_get (mask : List Bool) (k j : Nat) (h : j < (idxK mask k).length) : (idxK mask k)[j] = (place mask j : Int) := by simp [idxK]

theorem cT_take_le (mask : List Bool) (k : Nat) : cT (mask.take k) ≤ cT mask := List.Sublist.countP_le (List.take_sublist k mask)
theorem cF_take_le (mask : List Bool) (k : Nat) : cF (mask.take k) ≤ cF mask := List.Sublist.countP_le (List.take_sublist k mask)
/-- The place of a faulty one lies below the number of the faulty; of a correct one, below that of the correct. -/
theorem place_faulty (mask : List Bool) (j : Nat) (h : j < mask.length) (hm : mask[j] = true) : place mask j < cT mask := by
  unfold place
  rw [getD_bool mask j h, hm, if_pos rfl]
  have h1 := cT_take_le mask (j + 1)
  rw [take_snoc_bool mask j h, cT_snoc, hm] at h1
  simp at h1
  omega
theorem place_correct (mask : List Bool) (j : Nat) (h : j < mask.length) (hm : mask[j] = false) : place mask j < cF mask := by
  unfold place
  rw [getD_bool mask j h, hm, if_neg (by decide)]
  have h1 := cF_take_le mask (j + 1)
  rw [take_snoc_bool mask j h, cF_snoc, hm] at h1
  simp at h1
  omega

/-! ### The state of a tally -/

def emptyS : ByteArray := ⟨#[]⟩
/-- Is entry i voided by a claim? -/
def voidAt (vo : Option (List Bool)) (i : Nat) : Bool := match vo with
  | none => false
  | some v => v.getD i false
/-- Does the entry of the faulty f at the correct c count? -/
def contr (M : Nat) (inputs rec : List ByteArray) (vo : Option (List Bool)) (f c : Nat) : Bool :=
  nem (rec.getD (f * M + c) emptyS) && (rec.getD (f * M + c) emptyS).toList == (inputs.getD c emptyS).toList && agrC (colAt rec (f * M) M) && !voidAt vo (f * M + c)
def presL (M : Nat) (rec : List ByteArray) (F : Nat) : List Int := (List.range F).map fun (f : Nat) => (presC (colAt rec (f * M) M) : Int)
def eqL (M : Nat) (rec : List ByteArray) (F : Nat) : List Int := (List.range F).map fun (f : Nat) => (eqC (colAt rec (f * M) M) : Int)
def refL (M : Nat) (rec : List ByteArray) (F : Nat) : List ByteArray := (List.range F).map fun (f : Nat) => refC (colAt rec (f * M) M)
def supN (M : Nat) (inputs rec : List ByteArray) (vo : Option (List Bool)) (F c : Nat) : Nat := (List.range F).countP fun f => contr M inputs rec vo f c
/-- The support row in the midst of column F, the first C entries done. -/
def supR (M : Nat) (inputs rec : List ByteArray) (vo : Option (List Bool)) (F C : Nat) : List Int :=
  (List.range M).map fun (c : Nat) => ((if c < C then supN M inputs rec vo (F + 1) c else supN M inputs rec vo F c : Nat) : Int)
def supL (M : Nat) (inputs rec : List ByteArray) (vo : Option (List Bool)) (F : Nat) : List Int := (List.range M).map fun (c : Nat) => (supN M inputs rec vo F c : Int)

section
variable (M : Nat) (inputs rec : List ByteArray) (vo : Option (List Bool)) (F C : Nat)
theorem presL_succ : presL M rec (F + 1) = presL M rec F ++ [(presC (colAt rec (F * M) M) : Int)] := by simp [presL, List.range_succ]
theorem eqL_succ : eqL M rec (F + 1) = eqL M rec F ++ [(eqC (colAt rec (F * M) M) : Int)] := by simp [eqL, List.range_succ]
theorem refL_succ : refL M rec (F + 1) = refL M rec F ++ [refC (colAt rec (F * M) M)] := by simp [refL, List.range_succ]
theorem presL_length : (presL M rec F).length = F := by simp [presL]
theorem eqL_length : (eqL M rec F).length = F := by simp [eqL]
theorem refL_length : (refL M rec F).length = F := by simp [refL]
theorem supL_length : (supL M inputs rec vo F).length = M := by simp [supL]
theorem supR_length : (supR M inputs rec vo F C).length = M := by simp [supR]
theorem supR_zero : supR M inputs rec vo F 0 = supL M inputs rec vo F := by simp [supR, supL]
theorem supR_full : supR M inputs rec vo F M = supL M inputs rec vo (F + 1) := by
  unfold supR supL
  refine List.map_congr_left fun c hc => ?_
  rw [List.mem_range] at hc
  rw [if_pos hc]
theorem supL_zero : supL M inputs rec vo 0 = List.replicate M 0 := by
  unfold supL
  apply List.ext_getElem
  · simp
  · intro i h1 h2; simp [supN]
theorem supN_succ (c : Nat) : supN M inputs rec vo (F + 1) c = supN M inputs rec vo F c + if contr M inputs rec vo F c then 1 else 0 := by
  simp [supN, List.range_succ, List.countP_append, List.countP_cons]
theorem supN_le (c : Nat) : supN M inputs rec vo F c ≤ F := by
  unfold supN
  have := List.countP_le_length (p := fun f => contr M inputs rec vo f c) (l := List.range F)
  simpa using this
theorem supR_get (c : Nat) (h : c < (supR M inputs rec vo F C).length) : (supR M inputs rec vo F C)[c] = ((if c < C then supN M inputs rec vo (F + 1) c else supN M inputs rec vo F c : Nat) : Int) := by simp [supR]
theorem supR_at (hC : C < M) : (supR M inputs rec vo F C)[C]'(by rw [supR_length]; exact hC) = (supN M inputs rec vo F C : Int) := by
  rw [supR_get, if_neg (by omega)]
theorem supR_no (hC : C < M) (h : contr M inputs rec vo F C = false) : supR M inputs rec vo F (C + 1) = supR M inputs rec vo F C := by
  apply List.ext_getElem
  · simp [supR]
  · intro i h1 h2
    rw [supR_get, supR_get]
    by_cases e : i = C
    · subst e
      rw [if_pos (by omega), if_neg (by omega), supN_succ, h]
      simp
    · by_cases e2 : i < C
      · rw [if_pos (by omega), if_pos e2]
      · rw [if_neg (by omega), if_neg e2]
theorem supR_yes (hC : C < M) (h : contr M inputs rec vo F C = true) : supR M inputs rec vo F (C + 1) = (supR M inputs rec vo F C).set C ((supN M inputs rec vo F C : Int) + 1) := by
  apply List.ext_getElem
  · simp [supR]
  · intro i h1 h2
    rw [List.getElem_set, supR_get]
    by_cases e : i = C
    · subst e
      rw [if_pos (by omega), if_pos rfl, supN_succ, h, if_pos rfl]
      omega
    · have e' : ¬ C = i := fun h => e h.symm
      rw [if_neg e', supR_get]
      by_cases e2 : i < C
      · rw [if_pos (by omega), if_pos e2]
      · rw [if_neg (by omega), if_neg e2]
end

#print axioms agree_iff
#print axioms place_correct
end Go.Proofs.Qxb6604777a
