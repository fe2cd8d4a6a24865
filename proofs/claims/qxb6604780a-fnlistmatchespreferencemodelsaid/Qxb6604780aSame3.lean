/-
  The walks of zzSameInts, zzSameU8 and zzAllFalse where they say yes; flags untaken.
-/
import Derived.Test.Qxb6604780aReps
import Derived.Test.Qxb6604780aOpen
namespace Go.Proofs.Qxb6604780a
set_option linter.unusedSimpArgs false
set_option linter.unusedVariables false
open Go.RowKit

theorem allFalse_yes (b n : Nat) (w : World) (hl : n ≤ 1048576) (h : Own Value.bool 4 w b n (List.replicate n false)) : Calls Try.prog 16 #[.slice (some ⟨b, 0, none⟩) n n] w fun e w' => e = .returned (.bool true) ∧ w' = w := by
  have H := hide h
  clear h
  go_enter Try.func16, Try.ntmps16
  go_wp2
  go_loop [3] (fun i => ∃ k : Nat, k ≤ n ∧ i = .int .i64 k) (fun i => n - (intOf i).toNat)
  case atStart => exact ⟨0, Nat.zero_le _, rfl⟩
  case round =>
    obtain ⟨k, hk, rfl⟩ := hrel
    by_cases hlt : k < n
    · have hltI : (k : Int) < (n : Int) := by omega
      have hc := H.out.cell (i := k) (by simpa using hlt)
      rw [List.getElem_replicate] at hc
      go_wp2
      go_round
      case rel => exact ⟨k + 1, by omega, by go_num⟩
      case measure => simp [intOf]; omega
    · obtain rfl : k = n := by omega
      go_wp2
      go_ret
      exact ⟨rfl, rfl⟩

theorem sameInts_yes (a b : Option Addr) (n ca cb : Nat) (xs : List Int) (w : World) (hl : n ≤ 9223372036854775807) (hn : xs.length = n) (ha : Reads (Value.int .i64) w a xs) (hb : Reads (Value.int .i64) w b xs) :
    Calls Try.prog 15 #[.slice a n ca, .slice b n cb] w fun e w' => e = .returned (.bool true) ∧ ∃ q, w' = w.drewN q := by
  have HN := hide hn
  have HA := hide ha
  have HB := hide hb
  clear hn ha hb
  go_enter Try.func15, Try.ntmps15
  go_wp2
  go_loopw [5] (fun i wr => ∃ k : Nat, k ≤ n ∧ i = .int .i64 k ∧ ∃ q, wr = w.drewN q) (fun i _ => n - (intOf i).toNat)
  case atStart => exact ⟨0, Nat.zero_le _, rfl, 0, rfl⟩
  case round =>
    obtain ⟨k, hk, rfl, q, rfl⟩ := hrel
    by_cases hlt : k < n
    · have hltI : (k : Int) < (n : Int) := by omega
      obtain ⟨b6, o6, e6, c6⟩ := HA.out k (by rw [HN.out]; exact hlt)
      obtain ⟨b7, o7, e7, c7⟩ := HB.out k (by rw [HN.out]; exact hlt)
      subst e6
      subst e7
      obtain ⟨y, hy⟩ : ∃ y, y = xs[k]'(by rw [HN.out]; exact hlt) := ⟨_, rfl⟩
      rw [← hy] at c6 c7
      clear hy
      go_wp2_with fail
      go_quiet (fail)
      go_wp2_with fail
      go_roundw
      case rel => exact ⟨k + 1, by omega, by go_num, _, rfl⟩
      case measure => simp [intOf]; omega
    · obtain rfl : k = n := by omega
      go_wp2_with fail
      go_ret
      exact ⟨rfl, q, rfl⟩

theorem sameU8_yes (a b : Option Addr) (n ca cb : Nat) (xs : List Int) (w : World) (hl : n ≤ 1048576) (hn : xs.length = n) (ha : Reads (Value.int .u8) w a xs) (hb : Reads (Value.int .u8) w b xs) :
    Calls Try.prog 17 #[.slice a n ca, .slice b n cb] w fun e w' => e = .returned (.bool true) ∧ ∃ q, w' = w.drewN q := by
  have HN := hide hn
  have HA := hide ha
  have HB := hide hb
  clear hn ha hb
  go_enter Try.func17, Try.ntmps17
  go_wp2
  go_loopw [5] (fun i wr => ∃ k : Nat, k ≤ n ∧ i = .int .i64 k ∧ ∃ q, wr = w.drewN q) (fun i _ => n - (intOf i).toNat)
  case atStart => exact ⟨0, Nat.zero_le _, rfl, 0, rfl⟩
  case round =>
    obtain ⟨k, hk, rfl, q, rfl⟩ := hrel
    by_cases hlt : k < n
    · have hltI : (k : Int) < (n : Int) := by omega
      obtain ⟨b6, o6, e6, c6⟩ := HA.out k (by rw [HN.out]; exact hlt)
      obtain ⟨b7, o7, e7, c7⟩ := HB.out k (by rw [HN.out]; exact hlt)
      subst e6
      subst e7
      obtain ⟨y, hy⟩ : ∃ y, y = xs[k]'(by rw [HN.out]; exact hlt) := ⟨_, rfl⟩
      rw [← hy] at c6 c7
      clear hy
      go_wp2_with fail
      go_quiet (fail)
      go_wp2_with fail
      go_roundw
      case rel => exact ⟨k + 1, by omega, by go_num, _, rfl⟩
      case measure => simp [intOf]; omega
    · obtain rfl : k = n := by omega
      go_wp2_with fail
      go_ret
      exact ⟨rfl, q, rfl⟩

theorem untake_get : ∀ (xs : List Int) (T : List Bool) (i : Nat), (∀ x ∈ xs, 0 ≤ x) → (untake xs T)[i]? = if (i : Int) ∈ xs ∧ i < T.length then some false else T[i]?
  | [], T, i, _ => by simp [untake]
  | x :: xs, T, i, h => by
    have e : untake (x :: xs) T = untake xs (T.set x.toNat false) := rfl
    have hx := h x (List.mem_cons_self ..)
    rw [e, untake_get xs _ i (fun y hy => h y (List.mem_cons_of_mem _ hy)), List.length_set, List.getElem?_set]
    by_cases hi : x.toNat = i
    · have hix : (i : Int) = x := by omega
      have hmem : (i : Int) ∈ x :: xs := by rw [hix]; exact List.mem_cons_self ..
      by_cases hl : i < T.length
      · have e2 : (if (i : Int) ∈ x :: xs ∧ i < T.length then some false else T[i]?) = some false := if_pos ⟨hmem, hl⟩
        rw [e2]
        split
        · rfl
        · simp [hi, hl]
      · have e3 : T[i]? = none := List.getElem?_eq_none (by omega)
        simp [hl, e3]
        omega
    · have hm : ((i : Int) ∈ x :: xs) ↔ (i : Int) ∈ xs := by
        rw [List.mem_cons]
        exact ⟨fun z => z.elim (fun e => absurd (by omega) hi) id, .inr⟩
      rw [if_neg hi]
      simp only [hm]
theorem untake_flags (N : Nat) (xs : List Int) (h : ∀ x ∈ xs, 0 ≤ x) : untake xs (flagsOf N xs) = List.replicate N false := by
  apply List.ext_getElem?
  intro i
  rw [untake_get xs _ i h, flagsOf_length, flagsOf_at, List.getElem?_replicate]
  by_cases hi : i < N
  · rw [if_pos hi, if_pos hi]
    by_cases hm : (i : Int) ∈ xs
    · rw [if_pos ⟨hm, hi⟩]
    · rw [if_neg (fun z => hm z.1), decide_eq_false hm]
  · rw [if_neg (fun z => hi z.2), if_neg hi, if_neg hi]

/-- list's state at its beginning. -/
theorem start_inv (N M : Nat) (ofs : List Int) : Inv N M ofs [] (start N M ofs) :=
  ⟨(flagsOf_nil N).symm, (flagsOf_nil M).symm, rfl, fun i => by rw [if_neg (fun z => by cases z.2)]; rfl, rfl⟩
theorem walks_of {N M : Nat} {dc xs : List Int} (hx : AllIn xs (N : Int)) (hd : AllIn dc (M : Int)) (hl : dc.length = N) (k : Nat) : Walks N M dc (rot xs k) := by
  intro x h
  have hm : x ∈ xs := by
    unfold rot at h
    rcases List.mem_append.1 h with h | h
    · exact List.mem_of_mem_drop h
    · exact List.mem_of_mem_take h
  obtain ⟨j, hj, rfl⟩ := List.getElem_of_mem hm
  obtain ⟨h0, h1⟩ := hx j hj
  obtain ⟨d, hd1, hd2⟩ := hd.nat (j := xs[j].toNat) (by omega)
  exact ⟨xs[j].toNat, by omega, by omega, d, hd1, hd2⟩
#print axioms sameInts_yes
#print axioms untake_flags
end Go.Proofs.Qxb6604780a
