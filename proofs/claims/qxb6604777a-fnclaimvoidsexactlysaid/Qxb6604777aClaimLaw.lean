/-
  The plain law of claim: the supports behind a claim are those of the new flags, computed from scratch.
-/
import Derived.Test.Qxb6604777aZclaim
namespace Go.Proofs.Qxb6604777a
set_option linter.unusedSimpArgs false
set_option linter.unusedVariables false

/-- Two counts whose predicates part at one place. -/
theorem count_one (p p' : Nat → Bool) (f : Nat) (hne : ∀ x, x ≠ f → p' x = p x) : ∀ K, f < K → (List.range K).countP p' + (if p f then 1 else 0) = (List.range K).countP p + (if p' f then 1 else 0)
  | 0, h => by omega
  | K + 1, h => by
    rw [List.range_succ, List.countP_append, List.countP_append, List.countP_singleton, List.countP_singleton]
    by_cases e : f = K
    · subst e
      have : (List.range f).countP p' = (List.range f).countP p := by
        apply List.countP_congr
        intro x hx
        rw [List.mem_range] at hx
        rw [hne x (by omega)]
      rw [this]
      omega
    · have := count_one p p' f hne K (by omega)
      rw [hne K (fun h => e h.symm)]
      omega
theorem count_same (p p' : Nat → Bool) (K : Nat) (h : ∀ x, x < K → p' x = p x) : (List.range K).countP p' = (List.range K).countP p := by
  apply List.countP_congr
  intro x hx
  rw [List.mem_range] at hx
  rw [h x hx]

theorem index_inj {M f g f' g' : Nat} (hg : g < M) (hg' : g' < M) (h : f * M + g = f' * M + g') : f = f' ∧ g = g' := by
  have h1 : (f * M + g) / M = f := by rw [Nat.add_comm, Nat.add_mul_div_right _ _ (by omega), Nat.div_eq_of_lt hg]; omega
  have h2 : (f' * M + g') / M = f' := by rw [Nat.add_comm, Nat.add_mul_div_right _ _ (by omega), Nat.div_eq_of_lt hg']; omega
  have h3 : (f * M + g) % M = g := by rw [Nat.mul_comm, Nat.mul_add_mod]; exact Nat.mod_eq_of_lt hg
  have h4 : (f' * M + g') % M = g' := by rw [Nat.mul_comm, Nat.mul_add_mod]; exact Nat.mod_eq_of_lt hg'
  rw [h] at h1 h3
  exact ⟨h1.symm.trans h2, h3.symm.trans h4⟩

/-- counts is what the state's own count says, where the input is not empty. -/
theorem cntB_contr (M : Nat) (inputs rec : List ByteArray) (vo : Option (List Bool)) (f g : Nat) (hin : nem (inputs.getD g emptyS) = true) :
    cntB (rec.getD (f * M + g) emptyS) (inputs.getD g emptyS) (agrC (colAt rec (f * M) M)) (voidAt vo (f * M + g)) = contr M inputs rec vo f g := by
  unfold cntB contr voidsV
  by_cases he : ((rec.getD (f * M + g) emptyS).toList == (inputs.getD g emptyS).toList) = true
  · have hn : nem (rec.getD (f * M + g) emptyS) = true := by
      have : (rec.getD (f * M + g) emptyS).toList = (inputs.getD g emptyS).toList := by simpa using he
      unfold nem at hin ⊢
      rw [this]
      exact hin
    rw [he, hn]
    cases agrC (colAt rec (f * M) M) <;> cases voidAt vo (f * M + g) <;> rfl
  · have he' : ((rec.getD (f * M + g) emptyS).toList == (inputs.getD g emptyS).toList) = false := by simpa using he
    rw [he']
    simp

theorem presL_at (M : Nat) (rec : List ByteArray) (K f : Nat) (h : f < K) : (presL M rec K).getD f 0 = (presC (colAt rec (f * M) M) : Int) := by simp [presL, h]
theorem eqL_at (M : Nat) (rec : List ByteArray) (K f : Nat) (h : f < K) : (eqL M rec K).getD f 0 = (eqC (colAt rec (f * M) M) : Int) := by simp [eqL, h]
theorem agree_at (M : Nat) (rec : List ByteArray) (K f : Nat) (h : f < K) : ((presL M rec K).getD f 0 == (eqL M rec K).getD f 0) = agrC (colAt rec (f * M) M) := by
  rw [presL_at M rec K f h, eqL_at M rec K f h, ← agree_iff]
  rw [Bool.eq_iff_iff, beq_iff_eq, beq_iff_eq]
  omega
theorem supL_at (M : Nat) (inputs rec : List ByteArray) (vo : Option (List Bool)) (K g : Nat) (h : g < M) : (supL M inputs rec vo K).getD g 0 = (supN M inputs rec vo K g : Int) := by simp [supL, h]

theorem claim_law (M K n2 : Nat) (inputs rec : List ByteArray) (vo : Option (List Bool)) (f g : Nat) (v : ByteArray) (hf : f < K) (hg : g < M) (hn2 : n2 = K * M) (hin : nem (inputs.getD g emptyS) = true) (hvl : ∀ vs, vo = some vs → vs.length = n2) :
    claimSup M K inputs rec vo f g v = supL M inputs rec (claimVo M n2 rec vo f g v) K := by
  unfold claimSup claimVo
  by_cases he : ((rec.getD (f * M + g) emptyS).toList == v.toList) = true
  · rw [if_pos he, if_pos he]
  · rw [if_neg he, if_neg he]
    have hfl : (flags n2 vo).length = n2 := flags_length n2 vo hvl
    have hroom := mul_le_room hn2 hf
    have hvo : ∀ i, i ≠ f * M + g → voidAt (some ((flags n2 vo).set (f * M + g) true)) i = voidAt vo i := fun i hi => by
      rw [← flags_getD n2 i vo]
      simp only [voidAt, List.getD_eq_getElem?_getD]
      rw [List.getElem?_set_ne (fun h => hi h.symm)]
    have hvi : voidAt (some ((flags n2 vo).set (f * M + g) true)) (f * M + g) = true := by
      simp only [voidAt, List.getD_eq_getElem?_getD]
      rw [List.getElem?_set_self (by omega)]
      rfl
    have hsame : ∀ f' c, c < M → (f' ≠ f ∨ c ≠ g) → contr M inputs rec (some ((flags n2 vo).set (f * M + g) true)) f' c = contr M inputs rec vo f' c := fun f' c hc hne => by
      unfold contr
      rw [hvo]
      intro h
      have := index_inj hc hg h
      omega
    have hoff : contr M inputs rec (some ((flags n2 vo).set (f * M + g) true)) f g = false := by
      unfold contr
      rw [hvi]
      simp
    apply List.ext_getElem
    · simp [supL]
    · intro c h1 h2
      rw [List.length_set, supL_length] at h1
      rw [List.getElem_set]
      by_cases e : g = c
      · subst e
        rw [if_pos rfl, supL_at M inputs rec vo K g h1, agree_at M rec K f hf]
        have hc := count_one (fun f' => contr M inputs rec vo f' g) (fun f' => contr M inputs rec (some ((flags n2 vo).set (f * M + g) true)) f' g) f (fun x hx => hsame x g hg (.inl hx)) K hf
        simp only [hoff, Bool.false_eq_true, if_false, Nat.add_zero] at hc
        have hcnt : cntV (rec.getD (f * M + g) emptyS) (inputs.getD g emptyS) (agrC (colAt rec (f * M) M)) (voidAt vo (f * M + g)) = ((if contr M inputs rec vo f g then 1 else 0 : Nat) : Int) := by
          unfold cntV
          rw [cntB_contr M inputs rec vo f g hin]
          split <;> rfl
        rw [hcnt]
        have e2 : (supL M inputs rec (some ((flags n2 vo).set (f * M + g) true)) K)[g]'(by rw [supL_length]; exact h1) = ((List.range K).countP (fun f' => contr M inputs rec (some ((flags n2 vo).set (f * M + g) true)) f' g) : Int) := by simp [supL, supN]
        rw [e2]
        unfold supN
        omega
      · rw [if_neg e]
        have e1 : (supL M inputs rec vo K)[c]'(by rw [supL_length]; exact h1) = ((List.range K).countP (fun f' => contr M inputs rec vo f' c) : Int) := by simp [supL, supN]
        have e2 : (supL M inputs rec (some ((flags n2 vo).set (f * M + g) true)) K)[c]'(by rw [supL_length]; exact h1) = ((List.range K).countP (fun f' => contr M inputs rec (some ((flags n2 vo).set (f * M + g) true)) f' c) : Int) := by simp [supL, supN]
        rw [e1, e2, count_same _ _ K fun f' _ => hsame f' c h1 (.inr fun h => e h.symm)]

#print axioms claim_law
end Go.Proofs.Qxb6604777a
