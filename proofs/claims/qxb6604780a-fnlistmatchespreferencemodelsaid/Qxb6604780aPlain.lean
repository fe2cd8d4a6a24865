/-
  What list does, said plainly: the state that its loops carry, a loop each, and that a greater count only adds.
-/
import Derived.Test.Qxb6604780aBase
namespace Go.Proofs.Qxb6604780a

/-- The cyclic walk over xs from place k on. -/
def rot (xs : List Int) (k : Nat) : List Int := xs.drop k ++ xs.take k

theorem rot_length (xs : List Int) (k : Nat) (h : k ≤ xs.length) : (rot xs k).length = xs.length := by
  simp [rot]; omega
theorem rot_get? (xs : List Int) (k i : Nat) (hk : k < xs.length) (hi : i < xs.length) : (rot xs k)[i]? = xs[(k + i) % xs.length]? := by
  unfold rot
  rw [List.getElem?_append]
  split
  · rename_i h
    rw [List.length_drop] at h
    rw [List.getElem?_drop, Nat.mod_eq_of_lt (by omega)]
  · rename_i h
    rw [List.length_drop] at h ⊢
    rw [List.getElem?_take, if_pos (by omega), Nat.mod_eq_sub_mod (by omega), Nat.mod_eq_of_lt (by omega)]
    congr 1
    omega
theorem rot_get (xs : List Int) (k i : Nat) (hk : k < xs.length) (hi : i < xs.length) (h : i < (rot xs k).length) : (rot xs k)[i] = xs[(k + i) % xs.length]'(Nat.mod_lt _ (by omega)) := by
  have := rot_get? xs k i hk hi
  rw [List.getElem?_eq_getElem h, List.getElem?_eq_getElem (Nat.mod_lt _ (by omega))] at this
  exact Option.some.inj this
theorem rot_drop (xs : List Int) (k i : Nat) (hk : k < xs.length) (hi : i < xs.length) : (rot xs k).drop i = xs[(k + i) % xs.length]'(Nat.mod_lt _ (by omega)) :: (rot xs k).drop (i + 1) := by
  rw [List.drop_eq_getElem_cons (by rw [rot_length xs k (by omega)]; exact hi), rot_get xs k i hk hi]
theorem rot_drop_all (xs : List Int) (k : Nat) (hk : k < xs.length) : (rot xs k).drop xs.length = [] := by
  apply List.drop_of_length_le
  rw [rot_length xs k (by omega)]
  exact Nat.le_refl _

/-- What list carries: the nodes chosen; the flags of nodes taken and of datacenters held; the open nodes that were met; the subset's presences ([] where there is none). -/
structure LS where
  chosen : List Int
  taken : List Bool
  held : List Bool
  cons : List Int
  ofs : List Int

namespace LS
def take (S : LS) (x : Int) : LS := { S with chosen := S.chosen ++ [x], taken := S.taken.set x.toNat true }
def hold (S : LS) (d : Int) : LS := { S with held := S.held.set d.toNat true }
def met (S : LS) (x : Int) : LS := if S.ofs.getD x.toNat 0 = 2 then { S with ofs := S.ofs.set x.toNat 0, cons := S.cons ++ [x] } else S
def may (S : LS) (x : Int) : Bool := !(S.ofs.getD x.toNat 0 == 1)
def isHeld (S : LS) (d : Int) : Bool := S.held.getD d.toNat false
def isTaken (S : LS) (x : Int) : Bool := S.taken.getD x.toNat false
def clear (S : LS) : LS := { S with held := List.replicate S.held.length false }
end LS
def dcAt (dc : List Int) (x : Int) : Int := dc.getD x.toNat 0

def step1 (dc : List Int) (x : Int) (S : LS) : LS := if S.isHeld (dcAt dc x) = false ∧ S.may x = true then ((S.met x).hold (dcAt dc x)).take x else S
def run1 (dc : List Int) (D : Int) : List Int → LS → LS
  | [], S => S
  | x :: xs, S => if (S.chosen.length : Int) < D then run1 dc D xs (step1 dc x S) else S
/-- Held first, then taken where it was not. -/
def step2 (dc : List Int) (x : Int) (S : LS) : LS := if (S.met x).isTaken x = false then ((S.met x).hold (dcAt dc x)).take x else (S.met x).hold (dcAt dc x)
def run2 (dc : List Int) (n D : Int) : List Int → Nat → LS → LS
  | [], _, S => S
  | x :: xs, m, S =>
    if (S.chosen.length : Int) < n ∧ (m : Int) < D then
      if S.isHeld (dcAt dc x) = false ∧ S.may x = true then run2 dc n D xs (m + 1) (step2 dc x S) else run2 dc n D xs m S
    else S
def step3 (x : Int) (S : LS) : LS := if S.isTaken x = false ∧ S.may x = true then (S.met x).take x else S
def run3 (count : Int) : List Int → LS → LS
  | [], S => S
  | x :: xs, S => if (S.chosen.length : Int) < count then run3 count xs (step3 x S) else S

/-- The first two phases. -/
def phases (dc pts pks : List Int) (up pf : Bool) (D n : Int) (walk pick : Nat) (S : LS) : LS :=
  let S1 := if pf = true ∧ up = true ∧ D < n then (run1 dc D (rot pts walk) S).clear else S
  if up = true then (run2 dc n D (rot pks pick) 0 S1).clear else S1
def listed (dc pts pks : List Int) (up pf : Bool) (D n count : Int) (walk pick : Nat) (S : LS) : LS :=
  run3 count (rot pts walk) (phases dc pts pks up pf D n walk pick S)

theorem met_chosen (S : LS) (x : Int) : (S.met x).chosen = S.chosen := by unfold LS.met; split <;> rfl
theorem step3_grows (x : Int) (S : LS) : S.chosen <+: (step3 x S).chosen := by
  unfold step3
  split
  · rw [LS.take]
    simp only [met_chosen]
    exact List.prefix_append _ _
  · exact List.prefix_rfl
theorem run3_grows (count : Int) : ∀ (xs : List Int) (S : LS), S.chosen <+: (run3 count xs S).chosen
  | [], S => List.prefix_rfl
  | x :: xs, S => by
    unfold run3
    split
    · exact (step3_grows x S).trans (run3_grows count xs _)
    · exact List.prefix_rfl
/-- A greater count only adds. -/
theorem run3_more (c c2 : Int) (h : c ≤ c2) : ∀ (xs : List Int) (S : LS), (run3 c xs S).chosen <+: (run3 c2 xs S).chosen
  | [], S => List.prefix_rfl
  | x :: xs, S => by
    by_cases hlt : (S.chosen.length : Int) < c
    · rw [run3, if_pos hlt, run3, if_pos (by omega)]
      exact run3_more c c2 h xs _
    · rw [run3, if_neg hlt]
      exact run3_grows c2 _ S
end Go.Proofs.Qxb6604780a
