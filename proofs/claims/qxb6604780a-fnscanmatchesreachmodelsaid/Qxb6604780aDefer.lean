/-
  One deferred call of a builtin that gives a value and comes back: what the function's end then is.
-/
import Derived.Defers
namespace Go.Proofs.Qxb6604780a
open Go
variable {P : Program}

theorem step_defer_builtin {fr : Frame} {cs : List Frame} {w w' : World} {d : Deferred} {ds : List Deferred} {b : Builtin} {ats : Array TypeId} {ty : TypeId} {con : Array Bool} {v : Value}
    (hm : fr.mode ≠ .run) (hd : fr.defers = d :: ds) (ht : d.target = .builtin b ats ty con)
    (hi : (invoke d.target d.args).run P w = .ok (.value v) w') :
    step P (lone fr cs w) = .next (lone { fr with defers := ds } cs w') := by
  obtain ⟨t, a⟩ := d
  simp only at ht hi
  subst ht
  refine step_lone_go ?_
  cases hmode : fr.mode with
  | run => exact absurd hmode hm
  | returning => simp [stepG, unwind, callDeferred, hmode, hd, hi]
  | panicking chain => simp [stepG, unwind, callDeferred, hmode, hd, hi]

/-- What the body leaves: one deferred call of a builtin, which is made; then the results are read. -/
def LeavesOne (P : Program) (fn : Func) (R : Ending → World → Prop) (a : Act) (w : World) : Prop :=
  ∃ d b ats ty con v w' r, a.defers = [d] ∧ d.target = .builtin b ats ty con ∧ (invoke d.target d.args).run P w = .ok (.value v) w' ∧ (results fn a.tmps).run P w' = .ok r w' ∧ R (.returned r) w'
def bodyPostOne (P : Program) (fn : Func) (R : Ending → World → Prop) : Exit → Act → World → Prop
  | .ret, a, w => LeavesOne P fn R a w
  | _, _, _ => False

theorem calls_of_wp_one {f : FuncId} {fn : Func} {c : Code} {args : Array Value} {w : World} {R : Ending → World → Prop}
    (hf : P.funcs[f]? = some fn) (hb : fn.body = some c)
    (h : c.wp P (bodyPostOne P fn R) { tmps := args ++ Array.replicate (fn.ntmps - args.size) undef, defers := [] } w) : Calls P f args w R := by
  intro cs
  let b : Frame := { (default : Frame) with fn := f, kind := .normal }
  have henter : Frame.enter P f args .normal =
      b.at { tmps := args ++ Array.replicate (fn.ntmps - args.size) undef, defers := [] } [.code c] := by
    simp [Frame.enter, Frame.at, hf, hb, b]
  obtain ⟨e, a', w', hq, harr⟩ := h b [] cs
  rw [← henter] at harr
  cases e with
  | ret =>
    obtain ⟨todo, hs₀⟩ := harr
    obtain ⟨d, bi, ats, ty, con, v, w2, r, hd, ht, hi, hr, hR⟩ := hq
    have h1 := step_defer_builtin (P := P) (fr := { b.at a' todo with mode := .returning }) (cs := cs) (by simp) hd ht hi
    exact ⟨.returned r, w2, { { b.at a' todo with mode := .returning } with defers := [] }, hR, Comes.of_steps hs₀ (.one h1), rfl, rfl, rfl, rfl, fn, hf, hr⟩
  | normal => exact hq.elim
  | panic chain => exact hq.elim
  | exit id => exact hq.elim
  | goto l => exact hq.elim
  | outgrown => exact hq.elim
#print axioms calls_of_wp_one
end Go.Proofs.Qxb6604780a
