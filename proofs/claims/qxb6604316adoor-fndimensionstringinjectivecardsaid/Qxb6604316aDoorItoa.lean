/-
  The library's contract of 'strconv.Itoa' (the guide's shelf, proved once over any program) laid at this program, and turned to the shape that the row's step asks.
-/
import Derived.Shelf.LaysM
import Derived.Shelf.Strconv.Itoa3
import Derived.Test.Qxb6604316aDoorHolds
namespace Go.Proofs.Qxb6604316aDoor
open Go.Shelf Go.RowKit
open Go.Sort (grow)
def itoaRen : Go.Shelf.Ren := ⟨fun | 171 => 5 | 243 => 6 | 246 => 7 | 283 => 8 | 284 => 9 | 285 => 10 | 286 => 11 | 129 => 13 | 317 => 12 | 318 => 14 | 319 => 15 | 320 => 16 | 337 => 17 | 338 => 18 | n => n, fun | 3 => 3 | 9 => 9 | 2 => 2 | 4 => 4 | 171 => 27 | 0 => 0 | 53 => 28 | 37 => 31 | 5 => 5 | 173 => 32 | 212 => 36 | 51 => 37 | 20 => 20 | 213 => 38 | 46 => 40 | 232 => 43 | 233 => 44 | n => n, fun | 17 => 0 | 18 => 1 | 19 => 2 | n => n⟩
theorem itoaLays : Go.Proofs.LaysM.n171 Tryd.prog itoaRen := {
  mixed := by kernel_rfl
  f129 := Tryd.func13.trans (congrArg some (by kernel_rfl))
  f171 := Tryd.func5.trans (congrArg some (by kernel_rfl))
  f243 := Tryd.func6.trans (congrArg some (by kernel_rfl))
  f246 := Tryd.func7.trans (congrArg some (by kernel_rfl))
  f283 := Tryd.func8.trans (congrArg some (by kernel_rfl))
  f284 := Tryd.func9.trans (congrArg some (by kernel_rfl))
  f285 := Tryd.func10.trans (congrArg some (by kernel_rfl))
  f286 := Tryd.func11.trans (congrArg some (by kernel_rfl))
  f317 := Tryd.func12.trans (congrArg some (by kernel_rfl))
  f318 := Tryd.func14.trans (congrArg some (by kernel_rfl))
  f319 := Tryd.func15.trans (congrArg some (by kernel_rfl))
  f320 := Tryd.func16.trans (congrArg some (by kernel_rfl))
  f337 := Tryd.func17.trans (congrArg some (by kernel_rfl))
  f338 := Tryd.func18.trans (congrArg some (by kernel_rfl))
  t0 := Tryd.underlying0
  a0 := Tryd.isAgg0
  z0 := Tryd.sizeOf0
  v0 := Tryd.zeroValue0
  t2 := Tryd.underlying2
  a2 := Tryd.isAgg2
  z2 := Tryd.sizeOf2
  v2 := Tryd.zeroValue2
  t3 := Tryd.underlying3
  a3 := Tryd.isAgg3
  z3 := Tryd.sizeOf3
  v3 := Tryd.zeroValue3
  t4 := Tryd.underlying4
  a4 := Tryd.isAgg4
  z4 := Tryd.sizeOf4
  v4 := Tryd.zeroValue4
  t5 := Tryd.underlying5
  a5 := Tryd.isAgg5
  z5 := Tryd.sizeOf5
  v5 := Tryd.zeroValue5
  t9 := Tryd.underlying9
  a9 := Tryd.isAgg9
  z9 := Tryd.sizeOf9
  v9 := Tryd.zeroValue9
  t20 := Tryd.underlying20
  a20 := Tryd.isAgg20
  z20 := Tryd.sizeOf20
  v20 := Tryd.zeroValue20
  t37 := Tryd.underlying31
  a37 := Tryd.isAgg31
  z37 := Tryd.sizeOf31
  v37 := Tryd.zeroValue31
  t46 := Tryd.underlying40
  a46 := Tryd.isAgg40
  z46 := Tryd.sizeOf40
  v46 := Tryd.zeroValue40
  t51 := Tryd.underlying37
  a51 := Tryd.isAgg37
  z51 := Tryd.sizeOf37
  v51 := Tryd.zeroValue37
  t53 := Tryd.underlying28
  a53 := Tryd.isAgg28
  z53 := Tryd.sizeOf28
  v53 := Tryd.zeroValue28
  t171 := Tryd.underlying27
  a171 := Tryd.isAgg27
  z171 := Tryd.sizeOf27
  v171 := Tryd.zeroValue27
  t173 := Tryd.underlying32
  a173 := Tryd.isAgg32
  z173 := Tryd.sizeOf32
  v173 := Tryd.zeroValue32
  t212 := Tryd.underlying36
  a212 := Tryd.isAgg36
  z212 := Tryd.sizeOf36
  v212 := Tryd.zeroValue36
  t213 := Tryd.underlying38
  a213 := Tryd.isAgg38
  z213 := Tryd.sizeOf38
  t232 := Tryd.underlying43
  a232 := Tryd.isAgg43
  z232 := Tryd.sizeOf43
  v232 := Tryd.zeroValue43
  t233 := Tryd.underlying44
  a233 := Tryd.isAgg44
  z233 := Tryd.sizeOf44
  v233 := Tryd.zeroValue44
  g17 := by kernel_rfl
  g18 := by kernel_rfl
  g19 := by kernel_rfl
  i0 := by kernel_rfl
  i2 := by kernel_rfl
  i3 := by kernel_rfl
  i4 := by kernel_rfl
  i5 := by kernel_rfl
  i9 := by kernel_rfl
  i20 := by kernel_rfl
  i37 := by kernel_rfl
  i46 := by kernel_rfl
  i51 := by kernel_rfl
  i53 := by kernel_rfl
  i171 := by kernel_rfl
  i173 := by kernel_rfl
  i212 := by kernel_rfl
  i232 := by kernel_rfl
  i233 := by kernel_rfl
  m17 := by kernel_rfl
  m18 := by kernel_rfl
  m19 := by kernel_rfl }

theorem drewN_os (w : World) : ∀ k, (w.drewN k).os = w.os ∧ (w.drewN k).output = w.output
  | 0 => ⟨rfl, rfl⟩
  | k + 1 => drewN_os w k

theorem grow_below (w : World) (k : Nat) (os : Array Obj) : Below w.heap.size w (grow (w.drewN k) os) := by
  refine ⟨?_, ?_, ?_, ?_, fun i hi => ?_⟩
  · exact (drewN_os w k).1
  · simp [grow]
  · exact (drewN_os w k).2
  · simp [grow]
  · simp only [grow]
    rw [Array.getElem?_append_left (by simpa using hi)]
    simp

theorem itoa_said : ItoaSaid := fun n w h0 h1 htab => by
  have h := Any.strconv_Itoa itoaLays n (by omega) (by omega) w htab
  refine Calls.mono h fun e w' ⟨he, k, os, hw⟩ => ⟨he, ?_⟩
  subst hw
  exact grow_below w k os

/-- The statement. -/
theorem dimension_card : Rows.FnDimensionStringInjectiveCardSaid := card_holds itoa_said
#print axioms dimension_card
end Go.Proofs.Qxb6604316aDoor
