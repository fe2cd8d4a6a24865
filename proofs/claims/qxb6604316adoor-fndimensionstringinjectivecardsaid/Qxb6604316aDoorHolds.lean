/-
  'FnDimensionStringInjective': the row's step and the tied card, over a contract of 'strconv.Itoa' (a hypothesis here).
-/
import Derived.Test.Qxb6604316aDoorRows
import Derived.Test.Qxb6604316aDoorTie
import Derived.Test.Qxb6604316aDoorCards
import Derived.Test.Qxb6604316aDoorLaw
import Derived.ProofKit
import Derived.LaidMore
import Derived.OpenShut
import Derived.Stop.Joined
import Derived.Stop.LaidErr
import Derived.Lib.LaidTab
import Derived.SevenTiedAt
import Derived.ChangeOld
namespace Go.Proofs.Qxb6604316aDoor
open Go.ChangeShapes Go.WideShapes Go.ChangeAt Go.WideMaps Go.WideElems Go.RowKit

theorem own : ownKnob Tryd.prog.godebug = none := by kernel_rfl
/-- The name of the table of powers of ten, off the row's own list. -/
def powName : String := Rows.fnDimensionStringInjectiveRow.named.headD Rows.fnDimensionStringInjectiveRow.spec
theorem gPow : Tryd.prog.globalNamed powName = some 0 := by kernel_rfl
theorem tPow : (Tryd.prog.globals[0]?).map (·.type) = some 36 := by kernel_rfl
theorem c28 : Tryd.prog.cellsOf 28 = 1 := by kernel_rfl
theorem c36 : Tryd.prog.cellsOf 36 = 20 := by kernel_rfl

/-- The row's own list of variables. -/
def laid3 : List (String × DataW Unit) := Rows.fnDimensionStringInjectiveRow.laid

/-- The door's own heap meets the condition. -/
theorem door_met (os : Os) (args : Array Value) : laidMetH Tryd.prog laid3 ((World.doorLaid Tryd.prog 400 os).forCall (fun _ _ => 0) ⟨#[], args, []⟩).memory :=
  laidMetH_of_parts3 (fuel := 8) (laidMet_of_run' 8 (by kernel_rfl) (by kernel_rfl)) (by kernel_rfl) (by kernel_rfl)

/-- What the condition gives the walk: the table of powers of ten. -/
theorem of_laid {W : World} (h : laidMetH Tryd.prog laid3 W) : Lib.TabIs Tryd.prog W powName .u64 ((List.range 20).map fun i => ((10 ^ i : Nat) : Int)) := by
  rw [MakeChecks.laidMetH_plain _ _ _ (by kernel_rfl)] at h
  have h2 : laidMet Tryd.prog [(powName, Lib.tabData .u64 ((List.range 20).map fun i => ((10 ^ i : Nat) : Int)))] W := h.tail.tail
  exact Lib.tabIs_of_head gPow tPow Tryd.underlying36 Tryd.underlying28 c28 c36 h2

/-- The table stands still while nothing below the heap's end turns. -/
theorem tab_below {W w' : World} {zs : List Int} (h : Lib.TabIs Tryd.prog W powName .u64 zs) (hb : Below W.heap.size W w') : Lib.TabIs Tryd.prog w' powName .u64 zs := by
  unfold Lib.TabIs at h ⊢
  have hlt : 0 < W.heap.size := by
    rcases Nat.eq_zero_or_pos W.heap.size with h0 | h0
    · exfalso
      have : W.heap[0]? = none := by rw [Array.getElem?_eq_none_iff]; omega
      simp [World.var?, gPow, this] at h
    · exact h0
  rw [← h]
  simp only [World.var?, gPow, Option.bind_some, hb.block 0 hlt]

/-- What is asked of 'strconv.Itoa': the numeral, and nothing that was there has turned. -/
def ItoaSaid : Prop := ∀ (n : Int) (w : World), 0 ≤ n → n < 256 → Lib.TabIs Tryd.prog w powName .u64 ((List.range 20).map fun i => ((10 ^ i : Nat) : Int)) →
  Calls Tryd.prog 5 #[.int .i64 n] w fun e w' => e = .returned (.string ⟨(Lib.itoa n).toArray⟩) ∧ Below w.heap.size w w'

theorem walk (hI : ItoaSaid) (a b : Int) (w : World) (ha : (Lit.int .u8 a).wf = true) (hb : (Lit.int .u8 b).wf = true) (ht : Lib.TabIs Tryd.prog w powName .u64 ((List.range 20).map fun i => ((10 ^ i : Nat) : Int))) :
    Calls Tryd.prog 3 #[.int .u8 a, .int .u8 b] w fun e w' => e = .returned (.bool true) ∧ Below w.heap.size w w' := by
  have ba := bounds_u8 ha
  have bb := bounds_u8 hb
  refine (law_walk a b w ba.1 (by omega) bb.1 (by omega) (fun w' => Below w.heap.size w w') (Below.refl _ _) ?_).mono fun e w' h => h
  intro n w1 h0 h1 hR
  refine (hI n w1 h0 h1 (tab_below ht hR)).mono fun e w' ⟨he, hB⟩ => ⟨he, hR.trans (hB.mono hR.size)⟩

set_option maxRecDepth 100000 in
theorem lifted (hI : ItoaSaid) (os : Os) (started : os.Started) (H : Type) (enc : TypeId × Value → H) :
    ReturnsInHanded {} Tryd.checked os 3 .any (fun w args => (Rows.fnDimensionStringInjectiveSpec.pre enc Tryd.prog Tryd.f3 [] false w args ∧ laidMetH Tryd.prog laid3 w) ∧ sizedMet enc Tryd.prog Tryd.f3 (OpenSpec.ofChange Rows.fnDimensionStringInjectiveSpec) false w args)
      (Rows.fnDimensionStringInjectiveSpec.post enc Tryd.prog Tryd.f3 false true false false) := by
  refine returnsInHanded_of_change_and (C := Tryd.checked) (X := fun w _ => laidMetH Tryd.prog laid3 w) (fun _ _ _ hh h => h.of_heap hh) own started (by kernel_rfl) Tryd.func3
    (ChangeSpec.witness_shaped (enc := enc) (C := Tryd.checked) (os := os) (X := fun w _ => laidMetH Tryd.prog laid3 w) false (World.doorLaid Tryd.prog 400 os) #[.int .u8 0, .int .u8 0] 8 rfl (World.shaped_of_RefB (by kernel_rfl) (by kernel_rfl)) (by kernel_rfl) (by kernel_rfl) (by kernel_rfl) (door_met os _)) ?_
  intro W base args ds gs before hval0 hW _ _ hL _
  have hval : ∀ (j : Nat) t v, Tryd.f3.params[j]? = some t → args[j]? = some v → Value.okWide Tryd.prog W .any base t v := hval0
  have hW' := hW
  obtain ⟨p, q, hA0, hV, rfl, hfz, hnd⟩ := hW
  have hA : DataW.TrodAll enc Tryd.prog W 0 (fun _ => true) true Tryd.f3.params.toList args.toList ds p := hA0
  rw [Tryd.params3] at hA hval
  obtain ⟨v0, vs0, d0, ds0, p0, q0, hargs, rfl, rfl, h0, r0⟩ := trodAll_cons hA
  obtain ⟨v1, vs1, d1, ds1, p1, q1, rfl, rfl, rfl, h1, r1⟩ := trodAll_cons r0
  obtain ⟨rfl, rfl, rfl⟩ := trodAll_nil r1
  obtain rfl : args = #[v0, v1] := by cases args; simp_all
  obtain ⟨rfl, rfl⟩ := trodVars_none hV
  obtain ⟨a0, rfl, rfl, rfl, w0⟩ := open_int Tryd.underlying5 (hval 0 5 v0 rfl rfl) h0
  obtain ⟨a1, rfl, rfl, rfl, w1⟩ := open_int Tryd.underlying5 (hval 1 5 v1 rfl rfl) h1
  clear hA0 hval0
  refine (walk hI a0 a1 W w0 w1 (of_laid hL)).mono fun e W' ⟨he, bel⟩ => ?_
  subst he
  exact ⟨_, rfl, _, _, _, [], _, [], hW', trodAll_mk1 (shut_bool Tryd.underlying4 _), (trodAll_cons_mk (shut_int Tryd.underlying5 w0) (trodAll_cons_mk (shut_int Tryd.underlying5 w1) trodAll_mk0)), rfl, bel.frame _, fun h => by cases h⟩

theorem row_holds (hI : ItoaSaid) : Rows.FnDimensionStringInjectiveSaid :=
  OpenClaim.holds_of_wide 3 Tryd.f3 rfl rfl rfl rfl rfl rfl rfl ⟨rfl, rfl, rfl, rfl, rfl⟩ rfl rfl rfl rfl rfl (by kernel_rfl) Tryd.func3 (by kernel_rfl)
    (of_decide_eq_true (by kernel_rfl)) (by unfold Func.isWrapper; first | (rw [if_pos (by decide +kernel)]; kernel_rfl) | (rw [if_neg (by decide +kernel)]; exact ⟨rfl, rfl⟩))
    (fun os started H enc _ => lifted hI os started H enc)

/-- The tied card, out of the row. -/
theorem card_holds (hI : ItoaSaid) : Rows.FnDimensionStringInjectiveCardSaid :=
  Claim7.holds_tied_plain_at .later [] [.data, .data, .data] true Rows.fnDimensionStringInjectiveCard.stood.harness false
    (row_holds hI) (fun _ h => by cases h) (by kernel_rfl) (fun _ h => by cases h) fnDimensionStringInjective_row_tie rfl ⟨rfl, rfl⟩ (by kernel_rfl) rfl
    (fun f fn hf hfn => by
      obtain rfl : f = 3 := Option.some.inj ((show Tryd.prog.funcNamed Rows.fnDimensionStringInjectiveRow.func = some 3 by kernel_rfl).symm.trans hf) |>.symm
      obtain rfl : fn = Tryd.f3 := (Option.some.inj (Tryd.func3.symm.trans hfn)).symm
      exact ⟨by kernel_rfl, fun j t ht => by
        rw [Tryd.params3] at ht
        have hm : t ∈ [5, 5] := by simpa using Array.mem_of_getElem? ht
        have hall : ([5, 5].all fun u => !Tryd.prog.wantsStandIn u) = true := by kernel_rfl
        exact (show Tryd.prog.wantsStandIn t = false by simpa using List.all_eq_true.1 hall t hm)⟩)
    (by kernel_rfl)
end Go.Proofs.Qxb6604316aDoor
