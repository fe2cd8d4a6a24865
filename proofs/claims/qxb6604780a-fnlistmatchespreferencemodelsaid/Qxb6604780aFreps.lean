/-
  The walk of zzFirstReps.
-/
import Derived.Test.Qxb6604780aReps
import Derived.Test.Qxb6604780aBase
import Derived.Deep.AppendLies
import Derived.Deep.RegionHeld3
import Derived.Deep.DrawnRows
import Derived.Deep.DeepCutAuto
import Derived.Deep.CutBlock
namespace Go.Proofs.Qxb6604780a
set_option linter.unusedSimpArgs false
set_option linter.unusedVariables false
open Go.RowKit
attribute [local go_sem ↓] Go.wp_at_zero Go.wp_at_succ

/-- What firstAt and rep hold once the first j places have been walked. -/
structure FirstsTo (key : Int → Int) (ok : Int → Bool) (seq : List Int) (KS j : Nat) (A B : List Int) : Prop where
  la : A.length = KS
  lb : B.length = KS
  at_ : ∀ k : Nat, k < KS → (A.getD k 0 = -1 ∧ (k : Int) ∉ oldKeys key ok (seq.take j)) ∨ ∃ i : Nat, i < j ∧ A.getD k 0 = (i : Int) ∧ B.getD k 0 = seq.getD i 0 ∧ firstAtB key ok seq i = true ∧ key (seq.getD i 0) = (k : Int)
theorem oldKeys_succ (key : Int → Int) (ok : Int → Bool) (seq : List Int) (j : Nat) (hj : j < seq.length) : oldKeys key ok (seq.take (j + 1)) = oldKeys key ok (seq.take j) ++ if ok (seq.getD j 0) = true then [key (seq.getD j 0)] else [] := by
  have e : seq.getD j 0 = seq[j] := by
    rw [List.getD_eq_getElem?_getD, List.getElem?_eq_getElem hj]
    rfl
  unfold oldKeys
  rw [List.take_succ_eq_append_getElem hj, List.filter_append, List.map_append, e, List.filter_cons, List.filter_nil]
  split <;> rfl
namespace FirstsTo
variable {key : Int → Int} {ok : Int → Bool} {seq : List Int} {KS j : Nat} {A B : List Int}
theorem begin (hA : A = List.replicate KS (-1)) (hB : B.length = KS) : FirstsTo key ok seq KS 0 A B := by
  refine ⟨by rw [hA]; simp, hB, fun k hk => .inl ⟨?_, by simp [oldKeys]⟩⟩
  rw [hA, List.getD_eq_getElem?_getD, List.getElem?_replicate, if_pos hk]
  rfl
theorem skip (h : FirstsTo key ok seq KS j A B) (hj : j < seq.length) (ho : ok (seq.getD j 0) = false) : FirstsTo key ok seq KS (j + 1) A B := by
  refine ⟨h.la, h.lb, fun k hk => ?_⟩
  rw [oldKeys_succ key ok seq j hj, ho, if_neg (by simp), List.append_nil]
  rcases h.at_ k hk with h1 | ⟨i, hi, r⟩
  · exact .inl h1
  · exact .inr ⟨i, by omega, r⟩
/-- The key has been met. -/
theorem old (h : FirstsTo key ok seq KS j A B) (hj : j < seq.length) {k0 : Nat} (hk0 : k0 < KS) (hk : key (seq.getD j 0) = (k0 : Int)) (hA : ¬ A.getD k0 0 < 0) : FirstsTo key ok seq KS (j + 1) A B := by
  refine ⟨h.la, h.lb, fun k hkk => ?_⟩
  rcases h.at_ k hkk with ⟨h1, h2⟩ | ⟨i, hi, r⟩
  · left
    refine ⟨h1, ?_⟩
    have hne : (k : Int) ≠ (k0 : Int) := by
      intro e
      have : k = k0 := by omega
      subst this
      rw [h1] at hA
      omega
    rw [oldKeys_succ key ok seq j hj]
    intro hm
    rcases List.mem_append.1 hm with hm | hm
    · exact h2 hm
    · split at hm
      · rw [List.mem_singleton, hk] at hm
        exact hne hm
      · cases hm
  · exact .inr ⟨i, by omega, r⟩
/-- It is the first of its key. -/
theorem new (h : FirstsTo key ok seq KS j A B) (hj : j < seq.length) (ho : ok (seq.getD j 0) = true) {k0 : Nat} (hk0 : k0 < KS) (hk : key (seq.getD j 0) = (k0 : Int)) (hA : A.getD k0 0 < 0) : FirstsTo key ok seq KS (j + 1) (A.set k0 (j : Int)) (B.set k0 (seq.getD j 0)) := by
  refine ⟨by simpa using h.la, by simpa using h.lb, fun k hkk => ?_⟩
  have hla := h.la
  have hlb := h.lb
  by_cases e : k0 = k
  · subst e
    right
    refine ⟨j, by omega, ?_, ?_, ?_, hk⟩
    · rw [getD_set, if_pos ⟨rfl, by omega⟩]
    · rw [getD_set, if_pos ⟨rfl, by omega⟩]
    · rcases h.at_ k0 hkk with ⟨_, h2⟩ | ⟨i, _, h3, _⟩
      · unfold firstAtB
        rw [ho, hk, decide_eq_true h2]
        rfl
      · rw [h3] at hA
        omega
  · rw [getD_set, if_neg (fun z => e z.1), getD_set, if_neg (fun z => e z.1)]
    rcases h.at_ k hkk with ⟨h1, h2⟩ | ⟨i, hi, r⟩
    · left
      refine ⟨h1, ?_⟩
      rw [oldKeys_succ key ok seq j hj, ho, if_pos rfl]
      intro hm
      rcases List.mem_append.1 hm with hm | hm
      · exact h2 hm
      · rw [List.mem_singleton, hk] at hm
        omega
    · exact .inr ⟨i, by omega, r⟩
end FirstsTo

/-- What slot holds once the first kk keys have been laid. -/
structure SlotsTo (key : Int → Int) (ok : Int → Bool) (seq : List Int) (kk : Nat) (Sl : List Int) : Prop where
  ls : Sl.length = seq.length
  at_ : ∀ i : Nat, i < seq.length → Sl.getD i 0 = if firstAtB key ok seq i = true ∧ key (seq.getD i 0) < (kk : Int) then seq.getD i 0 else -1
/-- Two firsts of one key are one place. -/
theorem first_unique {key : Int → Int} {ok : Int → Bool} {seq : List Int} {i j : Nat} (hi : i < seq.length) (hj : j < seq.length) (h1 : firstAtB key ok seq i = true) (h2 : firstAtB key ok seq j = true) (hk : key (seq.getD i 0) = key (seq.getD j 0)) : i = j := by
  have aux : ∀ {a b : Nat}, a < b → b < seq.length → firstAtB key ok seq a = true → firstAtB key ok seq b = true → key (seq.getD a 0) = key (seq.getD b 0) → False := by
    intro a b hab hb ha hb2 hke
    unfold firstAtB at ha hb2
    rw [Bool.and_eq_true, decide_eq_true_eq] at ha hb2
    apply hb2.2
    rw [← hke]
    unfold oldKeys
    refine List.mem_map.2 ⟨seq.getD a 0, List.mem_filter.2 ⟨?_, ha.1⟩, rfl⟩
    rw [List.getD_eq_getElem?_getD, List.getElem?_eq_getElem (by omega)]
    show seq[a] ∈ seq.take b
    exact List.mem_take_iff_getElem.2 ⟨a, by omega, rfl⟩
  rcases Nat.lt_trichotomy i j with h | h | h
  · exact (aux h hj h1 h2 hk).elim
  · exact h
  · exact (aux h hi h2 h1 hk.symm).elim
namespace SlotsTo
variable {key : Int → Int} {ok : Int → Bool} {seq Sl : List Int} {kk KS : Nat} {A B : List Int}
theorem begin (h : Sl = List.replicate seq.length (-1)) (hk : ∀ i, i < seq.length → 0 ≤ key (seq.getD i 0)) : SlotsTo key ok seq 0 Sl := by
  refine ⟨by rw [h]; simp, fun i hi => ?_⟩
  rw [h, List.getD_eq_getElem?_getD, List.getElem?_replicate, if_pos hi, if_neg]
  · rfl
  · intro z
    have := hk i hi
    omega
theorem none (h : SlotsTo key ok seq kk Sl) (hF : FirstsTo key ok seq KS seq.length A B) (hkk : kk < KS) (hA : A.getD kk 0 < 0) : SlotsTo key ok seq (kk + 1) Sl := by
  refine ⟨h.ls, fun i hi => ?_⟩
  rw [h.at_ i hi]
  have hn : firstAtB key ok seq i = true → key (seq.getD i 0) ≠ (kk : Int) := by
    intro h1 h2
    rcases hF.at_ kk hkk with ⟨_, h3⟩ | ⟨_, _, h3, _⟩
    · apply h3
      rw [List.take_length]
      unfold firstAtB at h1
      rw [Bool.and_eq_true] at h1
      unfold oldKeys
      rw [← h2]
      refine List.mem_map.2 ⟨_, List.mem_filter.2 ⟨?_, h1.1⟩, rfl⟩
      rw [List.getD_eq_getElem?_getD, List.getElem?_eq_getElem hi]
      exact List.getElem_mem hi
    · rw [h3] at hA
      omega
  by_cases h1 : firstAtB key ok seq i = true
  · have := hn h1
    by_cases h2 : key (seq.getD i 0) < (kk : Int)
    · rw [if_pos ⟨h1, h2⟩, if_pos ⟨h1, by omega⟩]
    · rw [if_neg (fun z => h2 z.2), if_neg (fun z => by have := z.2; omega)]
  · rw [if_neg (fun z => h1 z.1), if_neg (fun z => h1 z.1)]
theorem some (h : SlotsTo key ok seq kk Sl) {i0 : Nat} (hi0 : i0 < seq.length) (h1 : firstAtB key ok seq i0 = true) (hk : key (seq.getD i0 0) = (kk : Int)) : SlotsTo key ok seq (kk + 1) (Sl.set i0 (seq.getD i0 0)) := by
  have hls := h.ls
  refine ⟨by simpa using h.ls, fun i hi => ?_⟩
  rw [getD_set]
  by_cases e : i0 = i
  · subst e
    rw [if_pos ⟨rfl, by omega⟩, if_pos ⟨h1, by omega⟩]
  · rw [if_neg (fun z => e z.1), h.at_ i hi]
    by_cases h2 : firstAtB key ok seq i = true
    · have hne : key (seq.getD i 0) ≠ (kk : Int) := fun z => e (first_unique hi0 hi h1 h2 (by rw [hk, z]))
      by_cases h3 : key (seq.getD i 0) < (kk : Int)
      · rw [if_pos ⟨h2, h3⟩, if_pos ⟨h2, by omega⟩]
      · rw [if_neg (fun z => h3 z.2), if_neg (fun z => by have := z.2; omega)]
    · rw [if_neg (fun z => h2 z.1), if_neg (fun z => h2 z.1)]
end SlotsTo

def keyOf (dc : List Int) (byDC : Bool) (x : Int) : Int := if byDC = true then dcAt dc x else x
theorem Reads.nat' {w : World} {b : Nat} {xs : List Int} (h : Reads (Value.int .i64) w (some ⟨b, 0, none⟩) xs) {i : Nat} (hi : i < xs.length) : w.cell? ⟨b, i, none⟩ = some (.int .i64 (xs.getD i 0)) := by
  have := h.at rfl hi
  rw [Nat.zero_add] at this
  rw [this, List.getD_eq_getElem?_getD, List.getElem?_eq_getElem hi]
  rfl
theorem Own.nat {w : World} {b n : Nat} {xs : List Int} (h : Own (Value.int .i64) 3 w b n xs) {i : Nat} (hi : i < xs.length) : w.cell? ⟨b, i, none⟩ = some (.int .i64 (xs.getD i 0)) := by
  rw [h.cell hi, List.getD_eq_getElem?_getD, List.getElem?_eq_getElem hi]
  rfl

/-- A list handed back: the slice, its elements. -/
def RowOut (w w' : World) (e : Ending) (xs : List Int) : Prop := ∃ a cap, e = .returned (.slice a xs.length cap) ∧ Reads (Value.int .i64) w' a xs ∧ Below w.heap.size w w' ∧ (∀ p, a = some p → w.heap.size ≤ p.block ∧ p.block < w'.heap.size)

theorem repsFrom_le (key : Int → Int) (ok : Int → Bool) : ∀ (xs seen : List Int), (repsFrom key ok seen xs).length ≤ xs.length
  | [], seen => by simp [repsFrom]
  | x :: xs, seen => by
    rw [repsFrom]
    split
    · have := repsFrom_le key ok xs (key x :: seen)
      simp; omega
    · have := repsFrom_le key ok xs seen
      simp; omega

set_option maxRecDepth 100000 in
set_option maxHeartbeats 4000000 in
theorem firstReps_any (asq : Option Addr) (L csq : Nat) (sq : List Int) (start : Int) (bd N : Nat) (dc : List Int) (KS : Nat) (byDC : Bool) (a5 : Option Addr) (n5 c5 : Nat) (ofs : List Int) (w : World)
    (hsl : sq.length = L) (hsq : Reads (Value.int .i64) w asq sq) (hst : 0 < L → 0 ≤ start ∧ start < L) (hdc : Reads (Value.int .i64) w (some ⟨bd, 0, none⟩) dc) (hdl : dc.length = N)
    (hin : ∀ i, i < L → ∃ x : Nat, sq.getD i 0 = (x : Int) ∧ x < N ∧ ∃ kx : Nat, keyOf dc byDC (x : Int) = (kx : Int) ∧ kx < KS) (h5 : Reads (Value.int .u8) w a5 ofs) (h5l : ofs.length = n5) (h5n : a5 ≠ none → n5 = N) (h50 : a5 = none → n5 = 0)
    (lL : L ≤ 32768) (lN : N ≤ 32768) (lK : KS ≤ 65536) :
    Calls Try.prog 31 #[.slice asq L csq, .int .i64 start, .slice (some ⟨bd, 0, none⟩) N N, .int .i64 (KS : Int), .bool byDC, .slice a5 n5 c5] w fun e w' =>
      RowOut w w' e (repsFrom (keyOf dc byDC) (okOf ofs) [] (rot sq start.toNat)) := by
  obtain ⟨seq, hseq⟩ : ∃ seq, seq = rot sq start.toNat := ⟨_, rfl⟩
  rw [← hseq]
  have hsql : seq.length = L := by
    rw [hseq]
    unfold rot
    rw [List.length_append, List.length_drop, List.length_take]
    omega
  have HSEQ : Hid (∀ j, j < L → seq.getD j 0 = sq.getD ((start.toNat + j) % L) 0) := by
    intro j hj
    obtain ⟨s0, s1⟩ := hst (by omega)
    rw [hseq, List.getD_eq_getElem?_getD, rot_get? sq start.toNat j (by omega) (by omega), hsl, ← List.getD_eq_getElem?_getD]
  have HKEY : Hid (∀ i, i < seq.length → 0 ≤ keyOf dc byDC (seq.getD i 0)) := by
    intro i hi
    rw [hsql] at hi
    rw [HSEQ.out i hi]
    obtain ⟨x, hx, _, kx, hkx, _⟩ := hin ((start.toNat + i) % L) (Nat.mod_lt _ (by omega))
    rw [hx, hkx]
    omega
  have HSL := hide hsql
  have HQL := hide hsl
  have HSQ := hide hsq
  have HST := hide hst
  have HDC := hide hdc
  have HDL := hide hdl
  have HIN := hide hin
  have H5 := hide h5
  have H5L := hide h5l
  have H5N := hide h5n
  have H50 := hide h50
  have hmkK := run_make_row' (P := Try.prog) 22 3 (.int .i64 0) 8 Try.underlying22 info3 rfl .i64 .i64 KS (by omega) (by omega)
  have hmkL := run_make_row' (P := Try.prog) 22 3 (.int .i64 0) 8 Try.underlying22 info3 rfl .i64 .i64 L (by omega) (by omega)
  clear hsql hsl hsq hst hdc hdl hin h5 h5l h5n h50 hseq
  go_enter Try.func31, Try.ntmps31
  go_wp2_with fail
  go_loopw [16] (fun i wr => ∃ k : Nat, k ≤ KS ∧ i = .int .i64 k ∧ Hid (Own (Value.int .i64) 3 wr w.heap.size KS (List.replicate k (-1))) ∧ Hid (Own (Value.int .i64) 3 wr (w.heap.size + 1) KS (List.replicate KS 0)) ∧ Hid (Below w.heap.size w wr) ∧ Hid (wr.heap.size = w.heap.size + 2)) (fun i _ => KS - (intOf i).toNat)
  case atStart =>
    refine ⟨0, Nat.zero_le _, rfl, ?_, ?_, ?_, ?_⟩
    · exact (Own.made_none w KS 3 (.int .i64 0)).alloc _
    · have := Own.made (f := Value.int .i64) (w.alloc (.cells (madeCells #[.int .i64 0] KS) 3)) 0 KS 3 (.int .i64 0) rfl
      have e : (w.alloc (.cells (madeCells #[.int .i64 0] KS) 3)).heap.size = w.heap.size + 1 := by simp
      rw [e] at this
      exact this
    · exact ((Below.refl _ _).alloc (Nat.le_refl _) _).alloc (by simp) _
    · exact (by simp : (((w.alloc (.cells (madeCells #[.int .i64 0] KS) 3)).alloc (.cells (madeCells #[.int .i64 0] KS) 3)).heap.size = w.heap.size + 2))
  case round =>
  obtain ⟨k, hk, rfl, HOA, HOB, HBE, HSZ⟩ := hrel
  by_cases hlt : k < KS
  case pos =>
    have hltI : (k : Int) < (KS : Int) := by omega
    obtain ⟨u0, hu0⟩ := HOA.out.there hlt
    have f0 := HOA.out.frozen k
    have hpush := HOA.out.push (by simpa using hlt) (-1)
    rw [List.length_replicate] at hpush
    have HPU : Hid (Own (Value.int .i64) 3 (wr.setCell ⟨w.heap.size, k, none⟩ (.int .i64 (-1))) w.heap.size KS (List.replicate (k + 1) (-1))) := by
      rw [List.replicate_succ']
      exact hpush
    clear hpush
    go_wp2_with fail
    go_roundw
    case rel => exact ⟨k + 1, by omega, by go_num, HPU, HOB.out.other (p := ⟨w.heap.size, k, none⟩) (by show w.heap.size + 1 ≠ w.heap.size; omega) _, HBE.out.setCell (by exact Nat.le_refl _) _, hide (by simpa using HSZ.out)⟩
    case measure => simp [intOf]; omega
  obtain rfl : k = KS := by omega
  obtain ⟨KS, rfl⟩ : ∃ KS, KS = k := ⟨_, rfl⟩
  have hklt : ¬ ((KS : Int) < (KS : Int)) := by omega
  go_wp2_with fail
  clear hk hlt
  go_loopw [17, 18, 19] (fun i x y wr => ∃ j : Nat, j ≤ L ∧ i = .int .i64 j ∧ ∃ A B, Hid (Own (Value.int .i64) 3 wr w.heap.size KS A) ∧ Hid (Own (Value.int .i64) 3 wr (w.heap.size + 1) KS B) ∧ Hid (FirstsTo (keyOf dc byDC) (okOf ofs) seq KS j A B) ∧ Hid (Below w.heap.size w wr) ∧ Hid (wr.heap.size = w.heap.size + 2)) (fun i x y _ => L - (intOf i).toNat)
  case atStart => exact ⟨0, Nat.zero_le _, rfl, _, _, HOA, HOB, FirstsTo.begin rfl (by simp), HBE, HSZ⟩
  case round =>
  clear HOA HOB HBE HSZ
  obtain ⟨j, hj, rfl, A, B, HOA, HOB, HF, HBE, HSZ⟩ := hrel
  by_cases hltL : j < L
  case pos =>
    have hltI : (j : Int) < (L : Int) := by omega
    obtain ⟨s0, s1⟩ := HST.out (by omega)
    obtain ⟨i0, hi0⟩ : ∃ i0, i0 = (start.toNat + j) % L := ⟨_, rfl⟩
    have hi0l : i0 < L := by rw [hi0]; exact Nat.mod_lt _ (by omega)
    have htm : Int.tmod (start + (j : Int)) (L : Int) = (i0 : Int) := by
      rw [hi0, Int.natCast_emod, Int.natCast_add, Int.toNat_of_nonneg s0]
      exact Int.tmod_eq_emod_of_nonneg (by omega)
    have hi0I : (i0 : Int) < (L : Int) := by omega
    have hL0 : ¬ ((L : Int) = 0) := by omega
    obtain ⟨x, hx, hxN, kx, hkx, hkS⟩ := HIN.out i0 hi0l
    have HXG : Hid (seq.getD j 0 = (x : Int)) := by rw [HSEQ.out j hltL, ← hi0]; exact hx
    have HKX : Hid (keyOf dc byDC (seq.getD j 0) = (kx : Int)) := by rw [HXG.out]; exact hkx
    obtain ⟨bx, ox, ex, cx⟩ := (HSQ.out.keep HBE.out) i0 (by rw [HQL.out]; exact hi0l)
    have gx : sq[i0]'(by rw [HQL.out]; exact hi0l) = (x : Int) := by
      rw [← hx, List.getD_eq_getElem?_getD, List.getElem?_eq_getElem (by rw [HQL.out]; exact hi0l)]
      rfl
    rw [gx] at cx
    subst ex
    have hxI : (x : Int) < (N : Int) := by omega
    have hkI : (kx : Int) < (KS : Int) := by omega
    have cA := HOA.out.nat (i := kx) (by rw [HF.out.la]; exact hkS)
    have fA := HOA.out.frozen kx
    clear hi0 hx gx
    cases ha5 : a5 with
    | none =>
      subst ha5
      have hnil : ∀ W, (binOp .neq 23 (.slice none n5 c5) (.slice none 0 0)).run Try.prog W = .ok (.bool false) W := fun W => ne_nil_none Try.underlying23 n5 c5 W
      have HOK : Hid (okOf ofs (seq.getD j 0) = true) := by
        have e0 : ofs = [] := List.eq_nil_of_length_eq_zero (by rw [H5L.out]; exact H50.out rfl)
        rw [e0]
        exact (by simp [okOf] : okOf [] (seq.getD j 0) = true)
      cases byDC
      case true =>
        have hkd : dcAt dc (x : Int) = (kx : Int) := hkx
        have cd := (HDC.out.keep HBE.out).nat' (i := x) (by rw [HDL.out]; exact hxN)
        have hkd' : dc.getD x 0 = (kx : Int) := hkd
        rw [hkd'] at cd
        clear hkd hkd' hkx
        obtain ⟨v, hv⟩ : ∃ v, v = A.getD kx 0 := ⟨_, rfl⟩
        rw [← hv] at cA
        have HV := hide hv
        clear hv
        by_cases hA : v < 0
        · have dA : decide (v < 0) = true := by simpa using hA
          rw [HV.out] at hA
          have HN := hide (FirstsTo.new HF.out (by rw [HSL.out]; exact hltL) HOK.out hkS HKX.out hA)
          rw [HXG.out] at HN
          have hoA := hide (HOA.out.set kx (j : Int))
          have hoB := hide ((HOB.out.other (p := ⟨w.heap.size, kx, none⟩) (by show w.heap.size + 1 ≠ w.heap.size; omega) (.int .i64 (j : Int))).set kx (x : Int))
          have hoA' := hide (hoA.out.other (p := ⟨w.heap.size + 1, kx, none⟩) (by show w.heap.size ≠ w.heap.size + 1; omega) (.int .i64 (x : Int)))
          obtain ⟨uB, huB⟩ := (HOB.out.other (p := ⟨w.heap.size, kx, none⟩) (by show w.heap.size + 1 ≠ w.heap.size; omega) (.int .i64 (j : Int))).there (i := kx) hkS
          have fB := (HOB.out.other (p := ⟨w.heap.size, kx, none⟩) (by show w.heap.size + 1 ≠ w.heap.size; omega) (.int .i64 (j : Int))).frozen kx
          clear hA
          go_wp2_with fail
          go_roundw
          case rel => exact ⟨j + 1, by omega, by go_num, _, _, hoA', hoB, HN, (HBE.out.setCell (by exact Nat.le_refl _) _).setCell (by exact Nat.le_succ _) _, hide (by simpa using HSZ.out)⟩
          case measure => simp [intOf]; omega
        · have dA : decide (v < 0) = false := by simpa using hA
          rw [HV.out] at hA
          have HN := hide (FirstsTo.old HF.out (by rw [HSL.out]; exact hltL) hkS HKX.out hA)
          clear hA
          go_wp2_with fail
          go_roundw
          case rel => exact ⟨j + 1, by omega, by go_num, _, _, HOA, HOB, HN, HBE, HSZ⟩
          case measure => simp [intOf]; omega
      case false =>
        have hkd : (x : Int) = (kx : Int) := hkx
        obtain rfl : x = kx := by omega
        clear hkd hkx
        obtain ⟨v, hv⟩ : ∃ v, v = A.getD x 0 := ⟨_, rfl⟩
        rw [← hv] at cA
        have HV := hide hv
        clear hv
        by_cases hA : v < 0
        · have dA : decide (v < 0) = true := by simpa using hA
          rw [HV.out] at hA
          have HN := hide (FirstsTo.new HF.out (by rw [HSL.out]; exact hltL) HOK.out hkS HKX.out hA)
          rw [HXG.out] at HN
          have hoA := hide (HOA.out.set x (j : Int))
          have hoB := hide ((HOB.out.other (p := ⟨w.heap.size, x, none⟩) (by show w.heap.size + 1 ≠ w.heap.size; omega) (.int .i64 (j : Int))).set x (x : Int))
          have hoA' := hide (hoA.out.other (p := ⟨w.heap.size + 1, x, none⟩) (by show w.heap.size ≠ w.heap.size + 1; omega) (.int .i64 (x : Int)))
          obtain ⟨uB, huB⟩ := (HOB.out.other (p := ⟨w.heap.size, x, none⟩) (by show w.heap.size + 1 ≠ w.heap.size; omega) (.int .i64 (j : Int))).there (i := x) hkS
          have fB := (HOB.out.other (p := ⟨w.heap.size, x, none⟩) (by show w.heap.size + 1 ≠ w.heap.size; omega) (.int .i64 (j : Int))).frozen x
          clear hA
          go_wp2_with fail
          go_roundw
          case rel => exact ⟨j + 1, by omega, by go_num, _, _, hoA', hoB, HN, (HBE.out.setCell (by exact Nat.le_refl _) _).setCell (by exact Nat.le_succ _) _, hide (by simpa using HSZ.out)⟩
          case measure => simp [intOf]; omega
        · have dA : decide (v < 0) = false := by simpa using hA
          rw [HV.out] at hA
          have HN := hide (FirstsTo.old HF.out (by rw [HSL.out]; exact hltL) hkS HKX.out hA)
          clear hA
          go_wp2_with fail
          go_roundw
          case rel => exact ⟨j + 1, by omega, by go_num, _, _, HOA, HOB, HN, HBE, HSZ⟩
          case measure => simp [intOf]; omega
    | some p5 =>
      have hn5 := H5N.out (by rw [ha5]; simp)
      subst ha5
      have hnil : ∀ W, (binOp .neq 23 (.slice (some p5) n5 c5) (.slice none 0 0)).run Try.prog W = .ok (.bool true) W := fun W => ne_nil_some Try.underlying23 p5 n5 c5 W
      have hx5 : x < ofs.length := by rw [H5L.out, hn5]; exact hxN
      have hx5I : (x : Int) < (n5 : Int) := by omega
      obtain ⟨b5, o5, e5, q5⟩ := (H5.out.keep HBE.out) x hx5
      obtain ⟨y, hy⟩ : ∃ y, y = ofs.getD x 0 := ⟨_, rfl⟩
      have gy : ofs[x] = y := by
        rw [hy, List.getD_eq_getElem?_getD, List.getElem?_eq_getElem hx5]
        rfl
      rw [gy] at q5
      cases e5
      have HY : Hid (okOf ofs (seq.getD j 0) = !(y == 1)) := by
        rw [HXG.out, hy]
        unfold okOf
        rw [Int.toNat_natCast]
        exact rfl
      clear hy gy hn5
      by_cases hy1 : y = 1
      · have u1 : (y == 1) = true := by simpa using hy1
        have HN := hide (FirstsTo.skip HF.out (by rw [HSL.out]; exact hltL) (by rw [HY.out, u1]; rfl))
        clear hy1 hkx
        go_wp2_with fail
        go_roundw
        case rel => exact ⟨j + 1, by omega, by go_num, _, _, HOA, HOB, HN, HBE, HSZ⟩
        case measure => simp [intOf]; omega
      · have u1 : (y == 1) = false := by simpa using hy1
        have HOK : Hid (okOf ofs (seq.getD j 0) = true) := by rw [HY.out, u1]; exact rfl
        clear hy1
        cases byDC
        case true =>
          have hkd : dcAt dc (x : Int) = (kx : Int) := hkx
          have cd := (HDC.out.keep HBE.out).nat' (i := x) (by rw [HDL.out]; exact hxN)
          have hkd' : dc.getD x 0 = (kx : Int) := hkd
          rw [hkd'] at cd
          clear hkd hkd' hkx
          obtain ⟨v, hv⟩ : ∃ v, v = A.getD kx 0 := ⟨_, rfl⟩
          rw [← hv] at cA
          have HV := hide hv
          clear hv
          by_cases hA : v < 0
          · have dA : decide (v < 0) = true := by simpa using hA
            rw [HV.out] at hA
            have HN := hide (FirstsTo.new HF.out (by rw [HSL.out]; exact hltL) HOK.out hkS HKX.out hA)
            rw [HXG.out] at HN
            have hoA := hide (HOA.out.set kx (j : Int))
            have hoB := hide ((HOB.out.other (p := ⟨w.heap.size, kx, none⟩) (by show w.heap.size + 1 ≠ w.heap.size; omega) (.int .i64 (j : Int))).set kx (x : Int))
            have hoA' := hide (hoA.out.other (p := ⟨w.heap.size + 1, kx, none⟩) (by show w.heap.size ≠ w.heap.size + 1; omega) (.int .i64 (x : Int)))
            obtain ⟨uB, huB⟩ := (HOB.out.other (p := ⟨w.heap.size, kx, none⟩) (by show w.heap.size + 1 ≠ w.heap.size; omega) (.int .i64 (j : Int))).there (i := kx) hkS
            have fB := (HOB.out.other (p := ⟨w.heap.size, kx, none⟩) (by show w.heap.size + 1 ≠ w.heap.size; omega) (.int .i64 (j : Int))).frozen kx
            clear hA
            go_wp2_with fail
            go_roundw
            case rel => exact ⟨j + 1, by omega, by go_num, _, _, hoA', hoB, HN, (HBE.out.setCell (by exact Nat.le_refl _) _).setCell (by exact Nat.le_succ _) _, hide (by simpa using HSZ.out)⟩
            case measure => simp [intOf]; omega
          · have dA : decide (v < 0) = false := by simpa using hA
            rw [HV.out] at hA
            have HN := hide (FirstsTo.old HF.out (by rw [HSL.out]; exact hltL) hkS HKX.out hA)
            clear hA
            go_wp2_with fail
            go_roundw
            case rel => exact ⟨j + 1, by omega, by go_num, _, _, HOA, HOB, HN, HBE, HSZ⟩
            case measure => simp [intOf]; omega
        case false =>
          have hkd : (x : Int) = (kx : Int) := hkx
          obtain rfl : x = kx := by omega
          clear hkd hkx
          obtain ⟨v, hv⟩ : ∃ v, v = A.getD x 0 := ⟨_, rfl⟩
          rw [← hv] at cA
          have HV := hide hv
          clear hv
          by_cases hA : v < 0
          · have dA : decide (v < 0) = true := by simpa using hA
            rw [HV.out] at hA
            have HN := hide (FirstsTo.new HF.out (by rw [HSL.out]; exact hltL) HOK.out hkS HKX.out hA)
            rw [HXG.out] at HN
            have hoA := hide (HOA.out.set x (j : Int))
            have hoB := hide ((HOB.out.other (p := ⟨w.heap.size, x, none⟩) (by show w.heap.size + 1 ≠ w.heap.size; omega) (.int .i64 (j : Int))).set x (x : Int))
            have hoA' := hide (hoA.out.other (p := ⟨w.heap.size + 1, x, none⟩) (by show w.heap.size ≠ w.heap.size + 1; omega) (.int .i64 (x : Int)))
            obtain ⟨uB, huB⟩ := (HOB.out.other (p := ⟨w.heap.size, x, none⟩) (by show w.heap.size + 1 ≠ w.heap.size; omega) (.int .i64 (j : Int))).there (i := x) hkS
            have fB := (HOB.out.other (p := ⟨w.heap.size, x, none⟩) (by show w.heap.size + 1 ≠ w.heap.size; omega) (.int .i64 (j : Int))).frozen x
            clear hA
            go_wp2_with fail
            go_roundw
            case rel => exact ⟨j + 1, by omega, by go_num, _, _, hoA', hoB, HN, (HBE.out.setCell (by exact Nat.le_refl _) _).setCell (by exact Nat.le_succ _) _, hide (by simpa using HSZ.out)⟩
            case measure => simp [intOf]; omega
          · have dA : decide (v < 0) = false := by simpa using hA
            rw [HV.out] at hA
            have HN := hide (FirstsTo.old HF.out (by rw [HSL.out]; exact hltL) hkS HKX.out hA)
            clear hA
            go_wp2_with fail
            go_roundw
            case rel => exact ⟨j + 1, by omega, by go_num, _, _, HOA, HOB, HN, HBE, HSZ⟩
            case measure => simp [intOf]; omega
  obtain rfl : j = L := by omega
  obtain ⟨L, rfl⟩ : ∃ L, L = j := ⟨_, rfl⟩
  have hllt : ¬ ((L : Int) < (L : Int)) := by omega
  obtain ⟨w2, rfl⟩ : ∃ w2, w2 = wr := ⟨_, rfl⟩
  go_wp2_with fail
  clear hj hltL
  go_loopw [21] (fun i wr => ∃ k : Nat, k ≤ L ∧ i = .int .i64 k ∧ Hid (Own (Value.int .i64) 3 wr w2.heap.size L (List.replicate k (-1))) ∧ Hid (Below w2.heap.size w2 wr)) (fun i _ => L - (intOf i).toNat)
  case atStart => exact ⟨0, Nat.zero_le _, rfl, Own.made_none _ _ _ _, (Below.refl _ _).alloc (Nat.le_refl _) _⟩
  case round =>
  obtain ⟨k, hk, rfl, HOS, HB3⟩ := hrel
  by_cases hlt : k < L
  case pos =>
    have hltI : (k : Int) < (L : Int) := by omega
    obtain ⟨u0, hu0⟩ := HOS.out.there hlt
    have f0 := HOS.out.frozen k
    have hpush := HOS.out.push (by simpa using hlt) (-1)
    rw [List.length_replicate] at hpush
    have HPU : Hid (Own (Value.int .i64) 3 (wr.setCell ⟨w2.heap.size, k, none⟩ (.int .i64 (-1))) w2.heap.size L (List.replicate (k + 1) (-1))) := by
      rw [List.replicate_succ']
      exact hpush
    clear hpush
    go_wp2_with fail
    go_roundw
    case rel => exact ⟨k + 1, by omega, by go_num, HPU, HB3.out.setCell (by exact Nat.le_refl _) _⟩
    case measure => simp [intOf]; omega
  obtain rfl : k = L := by omega
  obtain ⟨L, rfl⟩ : ∃ L, L = k := ⟨_, rfl⟩
  have hllt : ¬ ((L : Int) < (L : Int)) := by omega
  go_wp2_with fail
  clear hk hlt
  have HF' : Hid (FirstsTo (keyOf dc byDC) (okOf ofs) seq KS seq.length A B) := by rw [HSL.out]; exact HF
  go_loopw [22] (fun i wr => ∃ k : Nat, k ≤ KS ∧ i = .int .i64 k ∧ ∃ Sl, Hid (Own (Value.int .i64) 3 wr w2.heap.size L Sl) ∧ Hid (SlotsTo (keyOf dc byDC) (okOf ofs) seq k Sl) ∧ Hid (Below w2.heap.size w2 wr)) (fun i _ => KS - (intOf i).toNat)
  case atStart => exact ⟨0, Nat.zero_le _, rfl, _, HOS, SlotsTo.begin (by rw [HSL.out]) HKEY.out, HB3⟩
  case round =>
  clear HOS HB3
  obtain ⟨k, hk, rfl, Sl, HOS, HSS, HB3⟩ := hrel
  by_cases hlt : k < KS
  case pos =>
    have hltI : (k : Int) < (KS : Int) := by omega
    have cA := (HOA.out.keep HB3.out).nat (i := k) (by rw [HF.out.la]; exact hlt)
    have cB := (HOB.out.keep HB3.out).nat (i := k) (by rw [HF.out.lb]; exact hlt)
    rcases HF'.out.at_ k hlt with ⟨h1, h2⟩ | ⟨i0, hi0, h1, h2, h3, h4⟩
    · rw [h1] at cA
      have HN := hide (SlotsTo.none HSS.out HF'.out hlt (by rw [h1]; decide))
      clear h1 h2
      go_wp2_with fail
      go_roundw
      case rel => exact ⟨k + 1, by omega, by go_num, _, HOS, HN, HB3⟩
      case measure => simp [intOf]; omega
    · rw [h1] at cA
      rw [h2] at cB
      have HN := hide (SlotsTo.some HSS.out hi0 h3 h4)
      rw [HSL.out] at hi0
      have hi0I : (i0 : Int) < (L : Int) := by omega
      obtain ⟨us, hus⟩ := HOS.out.there hi0
      have fs := HOS.out.frozen i0
      have nA : w.heap.size ≠ w2.heap.size := by have := HSZ.out; omega
      have nB : w.heap.size + 1 ≠ w2.heap.size := by have := HSZ.out; omega
      obtain ⟨xv, hxv⟩ : ∃ xv, xv = seq.getD i0 0 := ⟨_, rfl⟩
      rw [← hxv] at cB HN
      have HS2 := hide (HOS.out.set i0 xv)
      have kA : (wr.setCell ⟨w2.heap.size, i0, none⟩ (.int .i64 xv)).cell? ⟨w.heap.size, k, none⟩ = some (.int .i64 (i0 : Int)) := (World.cell?_of_block (a := ⟨w.heap.size, k, none⟩) (Below.heap_setCell _ _ _ _ nA)).trans cA
      have kB : (wr.setCell ⟨w2.heap.size, i0, none⟩ (.int .i64 xv)).cell? ⟨w.heap.size + 1, k, none⟩ = some (.int .i64 xv) := (World.cell?_of_block (a := ⟨w.heap.size + 1, k, none⟩) (Below.heap_setCell _ _ _ _ nB)).trans cB
      clear h1 h2 h3 h4 hxv
      go_wp2_with fail
      go_region_held3 (fun W => W.cell? ⟨w.heap.size, k, none⟩ = some (.int .i64 (i0 : Int)) ∧ W.cell? ⟨w.heap.size + 1, k, none⟩ = some (.int .i64 xv)) (first | go_keep | exact ⟨kA, kB⟩) (fail)
      go_wp2_with fail
      go_roundw
      case rel => exact ⟨k + 1, by omega, by go_num, _, HS2.out.drew, HN, (HB3.out.setCell (by exact Nat.le_refl _) _).drew⟩
      case measure => simp [intOf]; omega
  obtain rfl : k = KS := by omega
  obtain ⟨KS, rfl⟩ : ∃ KS, KS = k := ⟨_, rfl⟩
  have hklt : ¬ ((KS : Int) < (KS : Int)) := by omega
  obtain ⟨w4, rfl⟩ : ∃ w4, w4 = wr := ⟨_, rfl⟩
  have HB4 := hide (HBE.out.trans (HB3.out.mono HBE.out.size))
  have HLS := hide HSS.out.ls
  obtain ⟨i0, hi0, hz0, hz1, hz2⟩ := info_parts info3
  have HKS : Hid (∀ i, i < L → firstAtB (keyOf dc byDC) (okOf ofs) seq i = true → keyOf dc byDC (seq.getD i 0) < (KS : Int)) := by
    intro i hi h1
    rw [HSEQ.out i hi]
    obtain ⟨x, hx, _, kx, hkx, hkS⟩ := HIN.out ((start.toNat + i) % L) (Nat.mod_lt _ (by omega))
    rw [hx, hkx]
    omega
  go_wp2_with fail
  clear hk hlt hmkK hmkL
  go_loopw [23, 24] (fun v i wr => ∃ j : Nat, j ≤ L ∧ i = .int .i64 j ∧ Hid (wr.ownsRow w4.heap.size 3 1 v (repsFrom (keyOf dc byDC) (okOf ofs) [] (seq.take j)).length ((repsFrom (keyOf dc byDC) (okOf ofs) [] (seq.take j)).map (Value.int .i64))) ∧ Hid (Below w4.heap.size w4 wr)) (fun v i _ => L - (intOf i).toNat)
  case atStart =>
    refine ⟨0, Nat.zero_le _, rfl, ?_, Below.refl _ _⟩
    have e : repsFrom (keyOf dc byDC) (okOf ofs) [] (seq.take 0) = [] := by rw [List.take_zero, repsFrom]
    rw [e]
    exact World.ownsRow_nil _ _ _ _
  case round =>
  obtain ⟨j, hj, rfl, HV, HB5⟩ := hrel
  by_cases hlt : j < L
  case pos =>
    have hltI : (j : Int) < (L : Int) := by omega
    have hjs : j < seq.length := by rw [HSL.out]; exact hlt
    have cS := (HOS.out.keep HB5.out).nat (i := j) (by rw [HLS.out]; exact hjs)
    rw [HSS.out.at_ j hjs] at cS
    obtain ⟨x, hx, hxN, kx, hkx, hkS⟩ := HIN.out ((start.toNat + j) % L) (Nat.mod_lt _ (by omega))
    have HXG : Hid (seq.getD j 0 = (x : Int)) := by rw [HSEQ.out j hlt]; exact hx
    have hlen := repsFrom_le (keyOf dc byDC) (okOf ofs) (seq.take j) []
    rw [List.length_take] at hlen
    obtain ⟨rs, hrs⟩ : ∃ rs, rs = repsFrom (keyOf dc byDC) (okOf ofs) [] (seq.take j) := ⟨_, rfl⟩
    rw [← hrs] at HV hlen
    have hle : rs.length ≤ 32768 := by omega
    by_cases hf : firstAtB (keyOf dc byDC) (okOf ofs) seq j = true
    · have HE : Hid (repsFrom (keyOf dc byDC) (okOf ofs) [] (seq.take (j + 1)) = rs ++ [(x : Int)]) := by
        rw [reps_succ _ _ seq j hjs, if_pos hf, HXG.out, hrs]
        exact rfl
      rw [if_pos ⟨hf, HKS.out j hlt hf⟩, HXG.out] at cS
      have hx0 : decide ((0 : Int) ≤ (x : Int)) = true := by simp
      have HBS : Hid (w4.heap.size ≤ wr.heap.size) := HB5.out.size
      clear hx hkx hf hrs hlen
      go_wp2_with (at_builtin; refine wpList_append_lies _ rfl _ _ _ rfl w4.heap.size 3 i0 _ 1 8 Try.underlying22 hi0 hz0 hz1 hz2 rfl (by omega) u23 rs.length (rs.map (Value.int .i64)) rfl (HV.out.alloc _) _ 1 1 [.int .i64 (x : Int)] rfl rfl (news_one _ _ _ _ (by first | rfl | simp)) (one_oneCell _ rfl) (by omega) (by unfold maxLen; omega) (by omega) (by have := HBS.out; simp; omega) (wr.heap.size + 1) (by simp) ?_)
      intro g cap w6 hown hgrow hat hlt6
      have HO6 : Hid (w6.ownsRow w4.heap.size 3 1 (.slice (some ⟨g, 0, none⟩) (rs.length + 1) cap) (repsFrom (keyOf dc byDC) (okOf ofs) [] (seq.take (j + 1))).length ((repsFrom (keyOf dc byDC) (okOf ofs) [] (seq.take (j + 1))).map (Value.int .i64))) := by
        rw [HE.out, List.length_append, List.length_singleton, List.map_append]
        exact hown
      have HB6 : Hid (Below w4.heap.size w4 w6) := by
        have a1 := HB5.out.alloc HBS.out (.cells #[.int .i64 (x : Int)] 3)
        exact a1.trans ⟨hgrow.os, hgrow.tape, hgrow.output, hgrow.size, fun q hq => hgrow.block q (by have := HBS.out; simp; omega) (fun e => by
          have := (HV.out.lt q e.symm).1
          omega)⟩
      clear hown hgrow hat hlt6 HE
      go_wp2_with fail
      go_roundw
      case rel => exact ⟨j + 1, by omega, by go_num, HO6, HB6⟩
      case measure => simp [intOf]; omega
    · have HE : Hid (repsFrom (keyOf dc byDC) (okOf ofs) [] (seq.take (j + 1)) = rs) := by
        rw [reps_succ _ _ seq j hjs, if_neg hf, List.append_nil, hrs]
        exact rfl
      rw [if_neg (fun z => hf z.1)] at cS
      clear hx hkx hf hrs hlen
      go_wp2_with fail
      go_roundw
      case rel => exact ⟨j + 1, by omega, by go_num, by rw [HE.out]; exact HV, HB5⟩
      case measure => simp [intOf]; omega
  obtain rfl : j = L := by omega
  obtain ⟨L, rfl⟩ : ∃ L, L = j := ⟨_, rfl⟩
  have hllt : ¬ ((L : Int) < (L : Int)) := by omega
  have HV' := HV.out
  rw [List.take_of_length_le (by rw [HSL.out]; exact Nat.le_refl _)] at HV'
  have HV2 := hide HV'
  have HBF := hide (HB4.out.trans (HB5.out.mono HB4.out.size))
  clear HV'
  go_wp2_with fail
  go_ret
  rcases HV2.out.2 with ⟨hv, hn⟩ | ⟨g, cap, cur, hv, hgB, hgh, _⟩
  · exact ⟨none, 0, by rw [hn]; exact congrArg _ hv, fun i hi => by omega, HBF.out, fun p hp => by cases hp⟩
  · have h2 := HV2.out
    rw [hv] at h2
    exact ⟨some ⟨g, 0, none⟩, cap, congrArg _ hv, (Own.of_ownsRow h2).1.reads, HBF.out, fun p hp => by cases hp; exact ⟨Nat.le_trans HB4.out.size hgB, lt_of_heap hgh⟩⟩
#print axioms firstReps_any
end Go.Proofs.Qxb6604780a
