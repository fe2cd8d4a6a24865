/-
  The walk of list.
-/
import Derived.Test.Qxb6604780aMeets
import Derived.Test.Qxb6604780aRing
import Derived.Lib.SliceRun
namespace Go.Proofs.Qxb6604780a
set_option linter.unusedSimpArgs false
set_option linter.unusedVariables false
open Go.RowKit

theorem RingAt.keep {w w' : World} {R : Nat} {vn vm : Value} {adc : Option Addr} {n0 c0 : Nat} {m : Int} {bp : Nat} {pts : List Int} {ak : Option Addr} {pks : List Int} {pf : Bool} (h : RingAt w R vn vm adc n0 c0 m bp pts ak pks pf) (hb : Below w.heap.size w w') : RingAt w' R vn vm adc n0 c0 m bp pts ak pks pf where
  ring := (hb.block _ (lt_of_heap h.ring)).trans h.ring
  points := h.points.keep hb
  picks := by
    rcases h.picks with h | ⟨bk, e, h⟩
    · exact .inl h
    · exact .inr ⟨bk, e, h.keep hb⟩
theorem RingAt.cells {w : World} {R : Nat} {vn vm : Value} {adc : Option Addr} {n0 c0 : Nat} {m : Int} {bp : Nat} {pts : List Int} {ak : Option Addr} {pks : List Int} {pf : Bool} (h : RingAt w R vn vm adc n0 c0 m bp pts ak pks pf) :
    w.cell? ⟨R, 2, none⟩ = some (.slice adc n0 c0) ∧ w.cell? ⟨R, 3, none⟩ = some (.int .i64 m) ∧ w.cell? ⟨R, 4, none⟩ = some (.slice (some ⟨bp, 0, none⟩) pts.length pts.length) ∧ w.cell? ⟨R, 5, none⟩ = some (.slice ak pks.length pks.length) ∧ w.cell? ⟨R, 6, none⟩ = some (.bool pf) := by
  have := h.ring
  exact ⟨by simp [World.cell?, this], by simp [World.cell?, this], by simp [World.cell?, this], by simp [World.cell?, this], by simp [World.cell?, this]⟩

/-- What is fixed while list runs. -/
structure Ground (w0 : World) (K : Blks) (R : Nat) (vn vm : Value) (bd : Nat) (dc : List Int) (bp : Nat) (pts : List Int) (ak : Option Addr) (pks : List Int) (pf : Bool) : Prop where
  base : K.B = w0.heap.size
  ring : RingAt w0 R vn vm (some ⟨bd, 0, none⟩) K.N K.N (K.M : Int) bp pts ak pks pf
  dcs : Reads (Value.int .i64) w0 (some ⟨bd, 0, none⟩) dc
  dl : dc.length = K.N
  dcIn : AllIn dc K.M
  ptsIn : AllIn pts K.N
  pksIn : AllIn pks K.N
  nN : K.N ≤ 32768
  nP : pts.length ≤ 32768
  nK : pks.length ≤ 32768
  nM : K.M ≤ 65536
  m0 : 0 < K.M

/-- What a loop of list carries. -/
structure Carry (w0 : World) (K : Blks) (wr : World) (S : LS) (most : Nat) : Prop where
  live : Live K wr S
  below : Below w0.heap.size w0 wr
  few : S.chosen.length ≤ most
  fewC : S.cons.length ≤ most
  within : ∀ x ∈ S.chosen, 0 ≤ x ∧ x < K.N

def Loop1 (w0 : World) (K : Blks) (dc : List Int) (D : Int) (seq : List Int) (Fin : LS) (b k : Nat) (wr : World) : Prop :=
  ∃ S, Carry w0 K wr S (b + k) ∧ run1 dc D (seq.drop k) S = Fin
def Loop2 (w0 : World) (K : Blks) (dc : List Int) (n D : Int) (seq : List Int) (Fin : LS) (b k m : Nat) (wr : World) : Prop :=
  ∃ S, Carry w0 K wr S (b + k) ∧ run2 dc n D (seq.drop k) m S = Fin
def Loop3 (w0 : World) (K : Blks) (count : Int) (seq : List Int) (Fin : LS) (b k : Nat) (wr : World) : Prop :=
  ∃ S, Carry w0 K wr S (b + k) ∧ run3 count (seq.drop k) S = Fin

theorem LiveAt.form {K : Blks} {w : World} {S : LS} {v vc : Value} (h : LiveAt K w S v vc) : ∃ a cap, v = .slice a S.chosen.length cap := by
  rcases h.kv.2 with ⟨hv, hn⟩ | ⟨g, cap, cur, hv, _⟩
  · exact ⟨none, 0, by rw [hv, hn]⟩
  · exact ⟨_, cap, hv⟩
theorem LiveAt.may_none {K : Blks} {w : World} {S : LS} {v vc : Value} (h : LiveAt K w S v vc) (hs : K.sub = none) (x : Int) : S.may x = true ∧ S.met x = S := by
  obtain ⟨e, _⟩ := h.kn hs
  unfold LS.may LS.met
  rw [e]
  simp
theorem met_of_may {S : LS} {x : Int} (h : S.may x = false) : S.met x = S := by
  unfold LS.may at h
  unfold LS.met
  have : S.ofs.getD x.toNat 0 = 1 := by simpa using h
  rw [if_neg (by omega)]
theorem met_cons (S : LS) (x : Int) : (S.met x).cons.length ≤ S.cons.length + 1 := by
  unfold LS.met
  split <;> simp
theorem met_taken (S : LS) (x : Int) : (S.met x).taken = S.taken := by unfold LS.met; split <;> rfl
theorem met_held (S : LS) (x : Int) : (S.met x).held = S.held := by unfold LS.met; split <;> rfl
theorem AllIn.nat {xs : List Int} {m : Nat} (h : AllIn xs (m : Int)) {j : Nat} (hj : j < xs.length) : ∃ x : Nat, xs.getD j 0 = (x : Int) ∧ x < m := by
  obtain ⟨h0, h1⟩ := h j hj
  refine ⟨xs[j].toNat, ?_, by omega⟩
  rw [List.getD_eq_getElem?_getD, List.getElem?_eq_getElem hj]
  simp; omega
theorem Reads.nat {w : World} {b : Nat} {xs : List Int} (h : Reads (Value.int .i64) w (some ⟨b, 0, none⟩) xs) {i : Nat} (hi : i < xs.length) : w.cell? ⟨b, i, none⟩ = some (.int .i64 (xs.getD i 0)) := by
  have := h.at rfl hi
  rw [Nat.zero_add] at this
  rw [this, List.getD_eq_getElem?_getD, List.getElem?_eq_getElem hi]
  rfl
theorem rot_at (xs : List Int) (k i : Nat) (hk : k < xs.length) (hi : i < xs.length) : (rot xs k).drop i = xs.getD ((k + i) % xs.length) 0 :: (rot xs k).drop (i + 1) := by
  rw [rot_drop xs k i hk hi, List.getD_eq_getElem?_getD, List.getElem?_eq_getElem (Nat.mod_lt _ (by omega))]
  rfl

/-- One step of a loop of list. -/
theorem Carry.step {w0 wr w' : World} {K : Blks} {S S' : LS} {most : Nat} (h : Carry w0 K wr S most) (hl : Live K w' S') (hb : Below w0.heap.size w0 w') (hc : S'.chosen = S.chosen ∨ ∃ x : Nat, S'.chosen = S.chosen ++ [(x : Int)] ∧ x < K.N) (hk : S'.cons.length ≤ S.cons.length + 1) : Carry w0 K w' S' (most + 1) := by
  refine ⟨hl, hb, ?_, by have := h.fewC; omega, ?_⟩
  · have := h.few
    rcases hc with e | ⟨x, e, _⟩
    · rw [e]; omega
    · rw [e, List.length_append, List.length_singleton]; omega
  · rcases hc with e | ⟨x, e, hx⟩
    · rw [e]; exact h.within
    · rw [e]
      intro y hy
      rcases List.mem_append.1 hy with hy | hy
      · exact h.within y hy
      · rw [List.mem_singleton.1 hy]
        omega
theorem Carry.more {w0 wr : World} {K : Blks} {S : LS} {m m' : Nat} (h : Carry w0 K wr S m) (hm : m ≤ m') : Carry w0 K wr S m' := ⟨h.live, h.below, Nat.le_trans h.few hm, Nat.le_trans h.fewC hm, h.within⟩
theorem Carry.stay {w0 wr w' : World} {K : Blks} {S : LS} {m : Nat} (h : Carry w0 K wr S m) (hl : Live K w' S) (hb : Below w0.heap.size w0 w') : Carry w0 K w' S m := ⟨hl, hb, h.few, h.fewC, h.within⟩

/-- What list hands back. -/
def Listed (w0 : World) (K : Blks) (S : LS) (e : Ending) (w' : World) : Prop := ∃ v vc, e = .returned v ∧ LiveAt K w' S v vc ∧ Below w0.heap.size w0 w'

def untake (xs : List Int) (T : List Bool) : List Bool := xs.foldl (fun T x => T.set x.toNat false) T
def LS.done (S : LS) : LS := { S with taken := untake S.chosen S.taken }

/-- n flags from o on cleared. -/
def clearN (T : List Bool) (o : Nat) : Nat → List Bool
  | 0 => T
  | n + 1 => clearN (T.set o false) (o + 1) n
theorem clearN_get : ∀ (n : Nat) (T : List Bool) (o j : Nat), (clearN T o n)[j]? = if o ≤ j ∧ j < o + n ∧ j < T.length then some false else T[j]?
  | 0, T, o, j => by rw [clearN, if_neg (by omega)]
  | n + 1, T, o, j => by
    rw [clearN, clearN_get n, List.length_set, List.getElem?_set]
    by_cases h : o = j
    · subst h
      rw [if_neg (by omega)]
      by_cases h2 : o < T.length
      · rw [if_pos rfl, if_pos h2, if_pos (by omega)]
      · rw [if_pos rfl, if_neg h2, if_neg (by omega), List.getElem?_eq_none (by omega)]
    · rw [if_neg h]
      by_cases h2 : o + 1 ≤ j ∧ j < o + 1 + n ∧ j < T.length
      · rw [if_pos h2, if_pos (by omega)]
      · rw [if_neg h2, if_neg (by omega)]
theorem clearN_all (T : List Bool) : clearN T 0 T.length = List.replicate T.length false := by
  apply List.ext_getElem?
  intro j
  rw [clearN_get, List.getElem?_replicate]
  by_cases h : j < T.length
  · rw [if_pos (by omega), if_pos h]
  · rw [if_neg (by omega), if_neg h, List.getElem?_eq_none (by omega)]
theorem run_clear_flags (w : World) (b n : Nat) (hn : 0 < n) {T : List Bool} (h : Own Value.bool 4 w b n T) (ty : TypeId) : (Builtin.clear_ #[30] ty #[.slice (some ⟨b, 0, none⟩) n n]).run Try.prog w = .ok (.tuple #[]) (w.setCells b 0 (List.replicate n (.bool false))) :=
  Lib.run_clear_slice w 30 4 ty (.bool false) Try.underlying30 (fun w => Try.zeroValue4 w) rfl rfl b 0 n n hn
    (fun j hj => by
      obtain ⟨u, hu⟩ := h.there (i := j) hj
      rw [Nat.zero_add, hu]
      rfl)
    (fun j hj => by rw [Nat.zero_add]; exact h.frozen j)
theorem LiveAt.clearedN {K : Blks} {v vc : Value} : ∀ (n o : Nat) (w : World) (S : LS), LiveAt K w S v vc → LiveAt K (w.setCells K.hb o (List.replicate n (.bool false))) { S with held := clearN S.held o n } v vc
  | 0, o, w, S, h => h
  | n + 1, o, w, S, h => by
    rw [List.replicate_succ, World.setCells]
    exact LiveAt.clearedN n (o + 1) _ _ (h.setHeld o false)
theorem LiveAt.cleared {K : Blks} {w : World} {S : LS} {v vc : Value} (h : LiveAt K w S v vc) : LiveAt K (w.setCells K.hb 0 (List.replicate K.M (.bool false))) S.clear v vc := by
  have := LiveAt.clearedN K.M 0 w S h
  rw [← h.khl, clearN_all] at this
  rw [← h.khl]
  exact this
theorem below_clear {B : Nat} {a : World} (b : Nat) (hb : B ≤ b) : ∀ (vs : List Value) (o : Nat) (w : World), Below B a w → Below B a (w.setCells b o vs)
  | [], _, _, h => h
  | v :: vs, o, w, h => below_clear b hb vs (o + 1) _ (h.setCell (by exact hb) v)
theorem Carry.cleared {w0 wr : World} {K : Blks} {S : LS} {m : Nat} (h : Carry w0 K wr S m) (hB : K.B = w0.heap.size) : Carry w0 K (wr.setCells K.hb 0 (List.replicate K.M (.bool false))) S.clear m := by
  obtain ⟨v, vc, hl⟩ := h.live
  exact ⟨⟨_, _, hl.cleared⟩, below_clear _ (by rw [← hB]; exact hl.low _ LiveAt.mem_hb) _ _ _ h.below, h.few, h.fewC, h.within⟩

set_option maxRecDepth 100000 in
set_option maxHeartbeats 4000000 in
theorem list_any (w0 w : World) (K : Blks) (R : Nat) (vn vm : Value) (bd : Nat) (dc : List Int) (bp : Nat) (pts : List Int) (ak : Option Addr) (pks : List Int) (pf : Bool) (wk : Nat) (pick n count : Int) (S : LS) (av : Option Addr) (an ac : Nat) (sp : Option Addr) (D : Int)
    (hG : Ground w0 K R vn vm bd dc bp pts ak pks pf) (hsp : sp = K.sub.map fun p => ⟨p.1, 0, none⟩) (hD : D = match K.sub with | none => (K.M : Int) | some _ => K.sDC) (hwk : wk < pts.length) (hpk : 0 < pks.length → 0 ≤ pick ∧ pick < pks.length)
    (hcb : K.cb = w.heap.size) (htb : K.tb = w.heap.size + 1) (hbw : Below w0.heap.size w0 w)
    (hC : Carry w0 K ((w.alloc (.cells #[.slice av an ac] 22)).alloc (.cells #[.slice (some ⟨K.kb, 0, none⟩) K.N K.N] 30)) S 0) :
    Calls Try.prog 30 #[.pointer (some ⟨R, 0, none⟩), .int .i64 (wk : Int), .int .i64 pick, .int .i64 n, .int .i64 count, .pointer sp, .slice av an ac, .slice (some ⟨K.kb, 0, none⟩) K.N K.N, .slice (some ⟨K.hb, 0, none⟩) K.M K.M] w fun e w' =>
      Listed w0 K (listed dc pts pks (ak.isSome && decide (1 < D)) pf D n count wk pick.toNat S).done e w' := by
  obtain ⟨w2, hw2⟩ : ∃ w2, w2 = (w.alloc (.cells #[.slice av an ac] 22)).alloc (.cells #[.slice (some ⟨K.kb, 0, none⟩) K.N K.N] 30) := ⟨_, rfl⟩
  rw [← hw2] at hC
  obtain ⟨r2, r3, r4, r5, r6⟩ := (hG.ring.keep hC.below).cells
  have HCB := hide hcb
  have HTB := hide htb
  have HC := hide hC
  have HG := hide hG
  have HW := hide hbw
  have HSP := hide hsp
  have HD := hide hD
  have hP := hG.nP
  have hK := hG.nK
  have hN := hG.nN
  have hM := hG.nM
  obtain ⟨L, hL⟩ : ∃ L, L = pts.length := ⟨_, rfl⟩
  obtain ⟨Lk, hLk⟩ : ∃ Lk, Lk = pks.length := ⟨_, rfl⟩
  rw [← hL] at r4 hP hwk
  rw [← hLk] at r5 hpk hK
  have HL := hide hL
  have HLK := hide hLk
  obtain ⟨up, hup⟩ : ∃ up, up = (ak.isSome && decide (1 < D)) := ⟨_, rfl⟩
  obtain ⟨p1, hp1⟩ : ∃ p1, p1 = (pf && up && decide (D < n)) := ⟨_, rfl⟩
  rw [← hup]
  obtain ⟨FIN, hFIN⟩ : ∃ FIN, FIN = (listed dc pts pks up pf D n count wk pick.toNat S).done := ⟨_, rfl⟩
  rw [← hFIN]
  have HFIN := hide hFIN
  have HPK := hide hpk
  have HP1 := hide hp1
  have HUP := hide hup
  clear hcb htb hC hG hbw hL hLk hsp hD hFIN hpk hp1 hup
  go_enter Try.func30, Try.ntmps30
  go_upto_region 2 with fail
  rw [← hw2, ← HTB.out, ← HCB.out]
  have H2 := hide hw2
  clear hw2
  go_upto_if 39 with fail
  go_cut [20] from 38 to 43 (fun s20 wc => s20 = .int .i64 D ∧ wc = w2)
  case first =>
    rcases hs : K.sub with _ | ⟨s, o⟩
    · have e1 := HSP.out
      have e2 := HD.out
      rw [hs] at e1 e2
      clear HSP HD
      subst e1
      have HE := hide e2
      clear e2
      go_wp2
      go_meet
      case rel => exact ⟨by rw [HE.out], rfl⟩
    · have e1 := HSP.out
      have e2 := HD.out
      rw [hs] at e1 e2
      clear HSP HD
      have HE := hide e2
      clear e2
      have e3 : sp = some ⟨s, 0, none⟩ := e1
      subst e3
      obtain ⟨_, _, hLA⟩ := HC.out.live
      obtain ⟨_, c1, _, _⟩ := hLA.subCells hs
      clear e1 hLA
      go_wp2
      go_meet
      case rel => exact ⟨by rw [HE.out], rfl⟩
  case rest =>
  obtain ⟨rfl, rfl⟩ := hcut
  go_upto_region 5 with fail
  go_cut [21] from 44 to 52 (fun s21 w5 => s21 = .bool up ∧ w5 = wc)
  case first =>
    cases hak : ak with
    | none =>
      subst hak
      have hcmp : ∀ W, (binOp .neq 54 (.slice none Lk Lk) (.slice none 0 0)).run Try.prog W = .ok (.bool false) W := fun W => ne_nil_none Try.underlying54 Lk Lk W
      go_wp2
      go_meet
      case rel => exact ⟨by rw [HUP.out]; rfl, rfl⟩
    | some pk =>
      subst hak
      have hcmp : ∀ W, (binOp .neq 54 (.slice (some pk) Lk Lk) (.slice none 0 0)).run Try.prog W = .ok (.bool true) W := fun W => ne_nil_some Try.underlying54 pk Lk Lk W
      go_wp2
      go_meet
      case rel => exact ⟨by rw [HUP.out]; rfl, rfl⟩
  case rest =>
  obtain ⟨rfl, rfl⟩ := hcut
  go_upto_region 6 with fail
  go_cut [64] from 53 to 64 (fun s64 w5 => s64 = .bool p1 ∧ w5 = wc)
  case first =>
    cases pf
    · go_wp2
      go_meet
      case rel => exact ⟨by rw [HP1.out]; rfl, rfl⟩
    · cases up
      · go_wp2
        go_meet
        case rel => exact ⟨by rw [HP1.out]; rfl, rfl⟩
      · go_wp2
        go_meet
        case rel => exact ⟨by rw [HP1.out]; simp, rfl⟩
  case rest =>
  obtain ⟨rfl, rfl⟩ := hcut
  obtain ⟨w2, rfl⟩ : ∃ w2, w2 = wc := ⟨_, rfl⟩
  obtain ⟨S1, hS1⟩ : ∃ S1, S1 = if p1 = true then (run1 dc D (rot pts wk) S).clear else S := ⟨_, rfl⟩
  have HS1 := hide hS1
  clear hS1
  go_upto_if 64 with fail
  go_cut [] from 65 to 123 (fun w5 => Carry w0 K w5 S1 32768)
  case first =>
    cases p1
    · have e1 : Hid (S1 = S) := HS1.out
      go_wp2
      go_meet
      case rel => rw [e1.out]; exact HC.out.more (by omega)
    · have e1 : Hid (S1 = (run1 dc D (rot pts wk) S).clear) := HS1.out
      clear HS1
      have HM0 : Hid (0 < K.M) := HG.out.m0
      go_wp2_with fail
      go_loopw [22, 23, 24] (fun i x y wr => ∃ k : Nat, k ≤ L ∧ i = .int .i64 k ∧ Loop1 w0 K dc D (rot pts wk) (run1 dc D (rot pts wk) S) 0 k wr) (fun i x y _ => L - (intOf i).toNat)
      case atStart => exact ⟨0, Nat.zero_le _, rfl, S, HC.out, rfl⟩
      case round =>
        obtain ⟨k, hk, rfl, S', hC', hrun⟩ := hrel
        have HR := hide hrun
        clear hrun
        obtain ⟨v', vc', hLA⟩ := hC'.live
        obtain ⟨va, vcap, rfl⟩ := hLA.form
        obtain ⟨q2, q3, q4, q5, q6⟩ := (HG.out.ring.keep hC'.below).cells
        rw [← HL.out] at q4
        rw [← HLK.out] at q5
        have b1 := hLA.boxCell.1
        have HC' := hide hC'
        have HLA := hide hLA
        clear hC' hLA
        by_cases hlt : k < L
        case neg =>
          obtain rfl : k = L := by omega
          have hcl := run_clear_flags wr K.hb K.M HM0.out HLA.out.kh
          go_wp2
          go_meet
          case rel =>
            have e2 := HR.out
            rw [HL.out, rot_drop_all pts wk (by rw [← HL.out]; exact hwk), run1] at e2
            rw [e1.out, ← e2]
            exact (HC'.out.more (by omega)).cleared HG.out.base
        have hltI : (k : Int) < (L : Int) := by omega
        by_cases hcd : (S'.chosen.length : Int) < D
        case neg =>
          have hcl := run_clear_flags wr K.hb K.M HM0.out HLA.out.kh
          go_wp2
          go_meet
          case rel =>
            have e2 := HR.out
            rw [rot_at pts wk k (by rw [← HL.out]; exact hwk) (by rw [← HL.out]; exact hlt), run1, if_neg (by omega)] at e2
            rw [e1.out, ← e2]
            exact (HC'.out.more (by omega)).cleared HG.out.base
        have hj0 : Int.tmod ((wk : Int) + (k : Int)) (L : Int) = (((wk + k) % L : Nat) : Int) := by
          rw [← Int.natCast_add]; exact (Int.ofNat_tmod _ _)
        have hjlt : (wk + k) % L < L := Nat.mod_lt _ (by omega)
        obtain ⟨j, hj⟩ : ∃ j, j = (wk + k) % L := ⟨_, rfl⟩
        rw [← hj] at hj0 hjlt
        have HJ := hide hj
        have hL0 : ¬ ((L : Int) = 0) := by omega
        obtain ⟨x, hx, hxN⟩ := HG.out.ptsIn.nat (j := j) (by rw [← HL.out]; exact hjlt)
        have cx := (HG.out.ring.keep HC'.out.below).points.node j (by rw [← HL.out]; exact hjlt)
        rw [hx] at cx
        have HX := hide hx
        obtain ⟨d, hd, hdM⟩ := HG.out.dcIn.nat (j := x) (by rw [HG.out.dl]; exact hxN)
        have cd := (HG.out.dcs.keep HC'.out.below).nat (i := x) (by rw [HG.out.dl]; exact hxN)
        rw [hd] at cd
        have HDD := hide hd
        have hxI : (x : Int) < (K.N : Int) := by omega
        have hdI : (d : Int) < (K.M : Int) := by omega
        have ch := HLA.out.heldCell hdM
        have fh := HLA.out.kh.frozen d
        have HSEQ : Hid ((rot pts wk).drop k = (x : Int) :: (rot pts wk).drop (k + 1)) := by
          have := rot_at pts wk k (by rw [← HL.out]; exact hwk) (by rw [← HL.out]; exact hlt)
          rw [← HL.out, ← HJ.out, HX.out] at this
          exact this
        have HDC : Hid (dcAt dc (x : Int) = (d : Int)) := by
          unfold dcAt
          rw [Int.toNat_natCast]
          exact HDD.out
        have HRUN : Hid (run1 dc D ((rot pts wk).drop (k + 1)) (step1 dc (x : Int) S') = run1 dc D (rot pts wk) S) := by
          have := HR.out
          rw [HSEQ.out, run1, if_pos hcd] at this
          exact this
        have HB := hide HC'.out.below
        clear hj hx hd
        obtain ⟨b, hb⟩ : ∃ b, b = S'.held.getD d false := ⟨_, rfl⟩
        rw [← hb] at ch
        have HBB : Hid (S'.isHeld (dcAt dc (x : Int)) = b) := by
          rw [HDC.out]
          exact hb.symm
        clear hb
        go_wp2_with fail
        go_quiet (fail)
        cases b
        case true =>
          go_wp2_with fail
          go_roundw
          case rel =>
            refine ⟨k + 1, by omega, by go_num, S', ?_, ?_⟩
            · exact HC'.out.step ⟨_, _, HLA.out.drewN nq⟩ (below_drewN HB.out nq) (.inl rfl) (by omega)
            · have e : step1 dc (x : Int) S' = S' := by
                unfold step1
                rw [if_neg (by rw [HBB.out]; simp)]
              have := HRUN.out
              rw [e] at this
              exact this
          case measure => simp [intOf]; omega
        case false =>
          rcases hs : K.sub with _ | ⟨s, o⟩
          · have e0 := HSP.out
            rw [hs] at e0
            have e0' : sp = none := e0
            subst e0'
            obtain ⟨hmay, hmet⟩ := HLA.out.may_none hs (x : Int)
            have HST : Hid (step1 dc (x : Int) S' = (S'.hold (d : Int)).take (x : Int)) := by
              unfold step1
              rw [if_pos ⟨HBB.out, hmay⟩, hmet, HDC.out]
              exact rfl
            have hl2 := (HLA.out.drewN nq).setHeld d true
            have hfw := HC'.out.few
            have hB2 : Hid (Below w0.heap.size w0 ((wr.drewN nq).setCell ⟨K.hb, d, none⟩ (.bool true))) := (below_drewN HB.out nq).setCell (by rw [← HG.out.base]; exact HLA.out.low _ LiveAt.mem_hb) _
            have C35 := hide (take_any K (S'.hold (d : Int)) x ((wr.drewN nq).setCell ⟨K.hb, d, none⟩ (.bool true)) ⟨_, _, hl2⟩ hxN hN (by show S'.chosen.length ≤ _; omega))
            clear hmay hmet hl2 hs e0
            go_wp2_with fail
            refine C35.out.mono ?_
            rintro e w7 ⟨rfl, hl7, hb7⟩
            have HL7 := hide hl7
            have HB7 : Hid (Below w0.heap.size w0 w7) := hB2.out.trans (by rw [← HG.out.base]; exact hb7)
            clear hl7 hb7 C35 hB2
            go_wp2_with fail
            go_roundw
            case rel =>
              refine ⟨k + 1, by omega, by go_num, _, ?_, HRUN.out⟩
              rw [HST.out]
              exact HC'.out.step HL7.out HB7.out (.inr ⟨x, rfl, hxN⟩) (by show S'.cons.length ≤ _; omega)
            case measure => simp [intOf]; omega
          · have e0 := HSP.out
            rw [hs] at e0
            have e0' : sp = some ⟨s, 0, none⟩ := e0
            subst e0'
            have hfw := HC'.out.few
            have hfc := HC'.out.fewC
            have C36 := hide (meets_any K S' s o x (wr.drewN nq) hs ⟨_, _, HLA.out.drewN nq⟩ hxN hN (by omega))
            have HSUB := hide hs
            clear e0 hs
            go_wp2_with fail
            refine C36.out.mono ?_
            rintro e w6 ⟨rfl, hl6, hb6⟩
            have HL6 := hide hl6
            have HB6 : Hid (Below w0.heap.size w0 w6) := (below_drewN HB.out nq).trans (by rw [← HG.out.base]; exact hb6)
            clear hl6 hb6 C36
            cases hmay : S'.may (x : Int)
            case false =>
              have HMAY := hide hmay
              clear hmay
              go_wp2_with fail
              go_roundw
              case rel =>
                have em := met_of_may HMAY.out
                refine ⟨k + 1, by omega, by go_num, S', ?_, ?_⟩
                · have hl := HL6.out
                  rw [em] at hl
                  exact HC'.out.step hl HB6.out (.inl rfl) (by omega)
                · have e : step1 dc (x : Int) S' = S' := by
                    unfold step1
                    rw [if_neg (by rw [HMAY.out]; simp)]
                  have := HRUN.out
                  rw [e] at this
                  exact this
              case measure => simp [intOf]; omega
            case true =>
              have HST : Hid (step1 dc (x : Int) S' = ((S'.met (x : Int)).hold (d : Int)).take (x : Int)) := by
                unfold step1
                rw [if_pos ⟨HBB.out, hmay⟩, HDC.out]
                exact rfl
              obtain ⟨v6, vc6, hla6⟩ := HL6.out
              have ch6 := hla6.heldCell hdM
              have fh6 := hla6.kh.frozen d
              have hl2 := hla6.setHeld d true
              have hB2 : Hid (Below w0.heap.size w0 (w6.setCell ⟨K.hb, d, none⟩ (.bool true))) := HB6.out.setCell (by rw [← HG.out.base]; exact hla6.low _ LiveAt.mem_hb) _
              have C35 := hide (take_any K ((S'.met (x : Int)).hold (d : Int)) x (w6.setCell ⟨K.hb, d, none⟩ (.bool true)) ⟨_, _, hl2⟩ hxN hN (by show (S'.met (x : Int)).chosen.length ≤ _; rw [met_chosen]; omega))
              clear hmay hl2 hla6
              go_wp2_with fail
              refine C35.out.mono ?_
              rintro e w7 ⟨rfl, hl7, hb7⟩
              have HL7 := hide hl7
              have HB7 : Hid (Below w0.heap.size w0 w7) := hB2.out.trans (by rw [← HG.out.base]; exact hb7)
              clear hl7 hb7 C35 hB2
              go_wp2_with fail
              go_roundw
              case rel =>
                refine ⟨k + 1, by omega, by go_num, _, ?_, HRUN.out⟩
                rw [HST.out]
                exact HC'.out.step HL7.out HB7.out (.inr ⟨x, by show (S'.met (x : Int)).chosen ++ _ = _; rw [met_chosen], hxN⟩) (met_cons S' x)
              case measure => simp [intOf]; omega
  case rest =>
  have HC1 := hide hcut
  obtain ⟨w3, rfl⟩ : ∃ w3, w3 = wc := ⟨_, rfl⟩
  obtain ⟨t2, t3, t4, t5, t6⟩ := (HG.out.ring.keep hcut.below).cells
  rw [← HL.out] at t4
  rw [← HLK.out] at t5
  clear hcut r2 r3 r4 r5 r6 HC
  obtain ⟨S2, hS2⟩ : ∃ S2, S2 = if up = true then (run2 dc n D (rot pks pick.toNat) 0 S1).clear else S1 := ⟨_, rfl⟩
  have HS2 := hide hS2
  clear hS2
  go_upto_if 124 with fail
  go_cut [] from 124 to 195 (fun w5 => Carry w0 K w5 S2 65536)
  case first =>
    cases up
    · have e1 : Hid (S2 = S1) := HS2.out
      go_wp2
      go_meet
      case rel => rw [e1.out]; exact HC1.out.more (by omega)
    · have e1 : Hid (S2 = (run2 dc n D (rot pks pick.toNat) 0 S1).clear) := HS2.out
      clear HS2
      have HM0 : Hid (0 < K.M) := HG.out.m0
      obtain ⟨bk, hbk, HPB⟩ : ∃ bk, ak = some ⟨bk, 0, none⟩ ∧ Hid (PtsAt w0 bk pks.length pks.length pks) := by
        rcases HG.out.ring.picks with ⟨e, _⟩ | ⟨bk, e, h⟩
        · have := HUP.out
          rw [e] at this
          cases this
        · exact ⟨bk, e, h⟩
      subst hbk
      go_wp2_with fail
      go_loopw [25, 26, 27, 28] (fun m i x y wr => ∃ k mm : Nat, k ≤ Lk ∧ mm ≤ k ∧ i = .int .i64 k ∧ m = .int .i64 mm ∧ Loop2 w0 K dc n D (rot pks pick.toNat) (run2 dc n D (rot pks pick.toNat) 0 S1) 32768 k mm wr) (fun m i x y _ => Lk - (intOf i).toNat)
      case atStart => exact ⟨0, 0, Nat.zero_le _, Nat.le_refl _, rfl, rfl, S1, HC1.out, rfl⟩
      case round =>
        obtain ⟨k, mm, hk, hmk, rfl, rfl, S', hC', hrun⟩ := hrel
        have HR := hide hrun
        clear hrun
        obtain ⟨v', vc', hLA⟩ := hC'.live
        obtain ⟨va, vcap, rfl⟩ := hLA.form
        obtain ⟨q2, q3, q4, q5, q6⟩ := (HG.out.ring.keep hC'.below).cells
        rw [← HL.out] at q4
        rw [← HLK.out] at q5
        have b1 := hLA.boxCell.1
        have HC' := hide hC'
        have HLA := hide hLA
        clear hC' hLA
        by_cases hlt : k < Lk
        case neg =>
          obtain rfl : k = Lk := by omega
          have hcl := run_clear_flags wr K.hb K.M HM0.out HLA.out.kh
          go_wp2
          go_meet
          case rel =>
            have e2 := HR.out
            have e3 : (rot pks pick.toNat).drop k = [] := by
              apply List.drop_of_length_le
              rw [HLK.out]
              unfold rot
              rw [List.length_append, List.length_drop, List.length_take]
              omega
            rw [e3, run2] at e2
            rw [e1.out, ← e2]
            exact (HC'.out.more (by omega)).cleared HG.out.base
        have hltI : (k : Int) < (Lk : Int) := by omega
        obtain ⟨hpk0, hpk1⟩ := HPK.out (by omega)
        have HSQ := rot_at pks pick.toNat k (by rw [← HLK.out]; omega) (by rw [← HLK.out]; exact hlt)
        rw [← HLK.out] at HSQ
        have HSQ := hide HSQ
        by_cases hcd : (S'.chosen.length : Int) < n
        case neg =>
          have hcl := run_clear_flags wr K.hb K.M HM0.out HLA.out.kh
          go_wp2
          go_meet
          case rel =>
            have e2 := HR.out
            rw [HSQ.out, run2, if_neg (by omega)] at e2
            rw [e1.out, ← e2]
            exact (HC'.out.more (by omega)).cleared HG.out.base
        by_cases hmd : (mm : Int) < D
        case neg =>
          have hcl := run_clear_flags wr K.hb K.M HM0.out HLA.out.kh
          go_wp2
          go_meet
          case rel =>
            have e2 := HR.out
            rw [HSQ.out, run2, if_neg (by omega)] at e2
            rw [e1.out, ← e2]
            exact (HC'.out.more (by omega)).cleared HG.out.base
        have hj0 : Int.tmod (pick + (k : Int)) (Lk : Int) = (((pick.toNat + k) % Lk : Nat) : Int) := by
          rw [Int.natCast_emod, Int.natCast_add, Int.toNat_of_nonneg hpk0]
          exact Int.tmod_eq_emod_of_nonneg (by omega)
        have hjlt : (pick.toNat + k) % Lk < Lk := Nat.mod_lt _ (by omega)
        obtain ⟨j, hj⟩ : ∃ j, j = (pick.toNat + k) % Lk := ⟨_, rfl⟩
        rw [← hj] at hj0 hjlt
        have HJ := hide hj
        have hL0 : ¬ ((Lk : Int) = 0) := by omega
        obtain ⟨x, hx, hxN⟩ := HG.out.pksIn.nat (j := j) (by rw [← HLK.out]; exact hjlt)
        have cx := (HPB.out.keep HC'.out.below).node j (by rw [← HLK.out]; exact hjlt)
        rw [hx] at cx
        have HX := hide hx
        obtain ⟨d, hd, hdM⟩ := HG.out.dcIn.nat (j := x) (by rw [HG.out.dl]; exact hxN)
        have cd := (HG.out.dcs.keep HC'.out.below).nat (i := x) (by rw [HG.out.dl]; exact hxN)
        rw [hd] at cd
        have HDD := hide hd
        have hxI : (x : Int) < (K.N : Int) := by omega
        have hdI : (d : Int) < (K.M : Int) := by omega
        have ch := HLA.out.heldCell hdM
        have fh := HLA.out.kh.frozen d
        have HDC : Hid (dcAt dc (x : Int) = (d : Int)) := by
          unfold dcAt
          rw [Int.toNat_natCast]
          exact HDD.out
        have HRUN : Hid ((if S'.isHeld (dcAt dc (x : Int)) = false ∧ S'.may (x : Int) = true then run2 dc n D ((rot pks pick.toNat).drop (k + 1)) (mm + 1) (step2 dc (x : Int) S') else run2 dc n D ((rot pks pick.toNat).drop (k + 1)) mm S') = run2 dc n D (rot pks pick.toNat) 0 S1) := by
          have := HR.out
          rw [HSQ.out, ← HJ.out, HX.out, run2, if_pos ⟨hcd, hmd⟩] at this
          exact this
        have HB := hide HC'.out.below
        have hfw := HC'.out.few
        have hfc := HC'.out.fewC
        clear hj hx hd
        obtain ⟨b, hb⟩ : ∃ b, b = S'.held.getD d false := ⟨_, rfl⟩
        rw [← hb] at ch
        have HBB : Hid (S'.isHeld (dcAt dc (x : Int)) = b) := by
          rw [HDC.out]
          exact hb.symm
        clear hb
        go_wp2_with fail
        go_quiet (fail)
        cases b
        case true =>
          go_wp2_with fail
          go_roundw
          case rel =>
            refine ⟨k + 1, mm, by omega, by omega, by go_num, rfl, S', ?_, ?_⟩
            · exact HC'.out.step ⟨_, _, HLA.out.drewN nq⟩ (below_drewN HB.out nq) (.inl rfl) (by omega)
            · have := HRUN.out
              rw [if_neg (by rw [HBB.out]; simp)] at this
              exact this
          case measure => simp [intOf]; omega
        case false =>
          rcases hs : K.sub with _ | ⟨s, o⟩
          · have e0 := HSP.out
            rw [hs] at e0
            have e0' : sp = none := e0
            subst e0'
            obtain ⟨hmay, hmet⟩ := HLA.out.may_none hs (x : Int)
            have HMET : Hid (S'.met (x : Int) = S') := hmet
            clear hs e0 hmet
            have HST : Hid (run2 dc n D ((rot pks pick.toNat).drop (k + 1)) (mm + 1) (step2 dc (x : Int) S') = run2 dc n D (rot pks pick.toNat) 0 S1) := by
              have := HRUN.out
              rw [if_pos ⟨HBB.out, hmay⟩] at this
              exact this
            have hl2 := (HLA.out.drewN nq).setHeld d true
            have hB2 : Hid (Below w0.heap.size w0 ((wr.drewN nq).setCell ⟨K.hb, d, none⟩ (.bool true))) := (below_drewN HB.out nq).setCell (by rw [← HG.out.base]; exact (HLA.out.drewN nq).low _ LiveAt.mem_hb) _
            have ct := hl2.takenCell hxN
            have cxx := hl2.flagBox
            obtain ⟨bt, hbt⟩ : ∃ bt, bt = S'.taken.getD x false := ⟨_, rfl⟩
            have ct' : ((wr.drewN nq).setCell ⟨K.hb, d, none⟩ (.bool true)).cell? ⟨K.kb, x, none⟩ = some (.bool bt) := by rw [hbt]; exact ct
            have HBT : Hid ((S').isTaken (x : Int) = bt) := hbt.symm
            clear ct hbt
            cases bt
            case true =>
              have HLL : Hid (Live K ((wr.drewN nq).setCell ⟨K.hb, d, none⟩ (.bool true)) ((S').hold (d : Int))) := ⟨_, _, hl2⟩
              have HS2 : Hid (step2 dc (x : Int) S' = (S').hold (d : Int)) := by
                unfold step2
                rw [HMET.out, if_neg (by rw [HBT.out]; simp), HDC.out]
                exact rfl
              clear hmay hl2
              go_wp2_with fail
              go_roundw
              case rel =>
                refine ⟨k + 1, mm + 1, by omega, by omega, by go_num, by go_num, _, ?_, HST.out⟩
                rw [HS2.out]
                exact HC'.out.step HLL.out hB2.out (.inl (show S'.chosen = S'.chosen from rfl)) (by show S'.cons.length ≤ _; omega)
              case measure => simp [intOf]; omega
            case false =>
              have HS2 : Hid (step2 dc (x : Int) S' = ((S').hold (d : Int)).take (x : Int)) := by
                unfold step2
                rw [HMET.out, if_pos HBT.out, HDC.out]
                exact rfl
              have C35 := hide (take_any K ((S').hold (d : Int)) x ((wr.drewN nq).setCell ⟨K.hb, d, none⟩ (.bool true)) ⟨_, _, hl2⟩ hxN hN (by show (S').chosen.length ≤ _; rw [(show S'.chosen = S'.chosen from rfl)]; omega))
              clear hmay hl2
              go_wp2_with fail
              refine C35.out.mono ?_
              rintro e w7 ⟨rfl, hl7, hb7⟩
              have HL7 := hide hl7
              have HB7 : Hid (Below w0.heap.size w0 w7) := hB2.out.trans (by rw [← HG.out.base]; exact hb7)
              clear hl7 hb7 C35 hB2
              go_wp2_with fail
              go_roundw
              case rel =>
                refine ⟨k + 1, mm + 1, by omega, by omega, by go_num, by go_num, _, ?_, HST.out⟩
                rw [HS2.out]
                exact HC'.out.step HL7.out HB7.out (.inr ⟨x, by show (S').chosen ++ _ = _; rw [(show S'.chosen = S'.chosen from rfl)], hxN⟩) (by show S'.cons.length ≤ _; omega)
              case measure => simp [intOf]; omega
          · have e0 := HSP.out
            rw [hs] at e0
            have e0' : sp = some ⟨s, 0, none⟩ := e0
            subst e0'
            have C36 := hide (meets_any K S' s o x (wr.drewN nq) hs ⟨_, _, HLA.out.drewN nq⟩ hxN hN (by omega))
            have HSUB := hide hs
            clear e0 hs
            go_wp2_with fail
            refine C36.out.mono ?_
            rintro e w6 ⟨rfl, hl6, hb6⟩
            have HL6 := hide hl6
            have HB6 : Hid (Below w0.heap.size w0 w6) := (below_drewN HB.out nq).trans (by rw [← HG.out.base]; exact hb6)
            clear hl6 hb6 C36
            cases hmay : S'.may (x : Int)
            case false =>
              have HMAY := hide hmay
              clear hmay
              go_wp2_with fail
              go_roundw
              case rel =>
                have em := met_of_may HMAY.out
                refine ⟨k + 1, mm, by omega, by omega, by go_num, rfl, S', ?_, ?_⟩
                · have hl := HL6.out
                  rw [em] at hl
                  exact HC'.out.step hl HB6.out (.inl rfl) (by omega)
                · have := HRUN.out
                  rw [if_neg (by rw [HMAY.out]; simp)] at this
                  exact this
              case measure => simp [intOf]; omega
            case true =>
              obtain ⟨v6, vc6, hla6⟩ := HL6.out
              have HMET : Hid (S'.met (x : Int) = S'.met (x : Int)) := rfl
              have HST : Hid (run2 dc n D ((rot pks pick.toNat).drop (k + 1)) (mm + 1) (step2 dc (x : Int) S') = run2 dc n D (rot pks pick.toNat) 0 S1) := by
                have := HRUN.out
                rw [if_pos ⟨HBB.out, hmay⟩] at this
                exact this
              have ch6 := hla6.heldCell hdM
              have fh6 := hla6.kh.frozen d
              have hl2 := hla6.setHeld d true
              have hB2 : Hid (Below w0.heap.size w0 (w6.setCell ⟨K.hb, d, none⟩ (.bool true))) := HB6.out.setCell (by rw [← HG.out.base]; exact hla6.low _ LiveAt.mem_hb) _
              have ct := hl2.takenCell hxN
              have cxx := hl2.flagBox
              obtain ⟨bt, hbt⟩ : ∃ bt, bt = (S'.met (x : Int)).taken.getD x false := ⟨_, rfl⟩
              have ct' : (w6.setCell ⟨K.hb, d, none⟩ (.bool true)).cell? ⟨K.kb, x, none⟩ = some (.bool bt) := by rw [hbt]; exact ct
              have HBT : Hid (((S'.met (x : Int))).isTaken (x : Int) = bt) := hbt.symm
              clear ct hbt
              cases bt
              case true =>
                have HLL : Hid (Live K (w6.setCell ⟨K.hb, d, none⟩ (.bool true)) (((S'.met (x : Int))).hold (d : Int))) := ⟨_, _, hl2⟩
                have HS2 : Hid (step2 dc (x : Int) S' = ((S'.met (x : Int))).hold (d : Int)) := by
                  unfold step2
                  rw [HMET.out, if_neg (by rw [HBT.out]; simp), HDC.out]
                  exact rfl
                clear hmay hl2 hla6
                go_wp2_with fail
                go_roundw
                case rel =>
                  refine ⟨k + 1, mm + 1, by omega, by omega, by go_num, by go_num, _, ?_, HST.out⟩
                  rw [HS2.out]
                  exact HC'.out.step HLL.out hB2.out (.inl (met_chosen S' x)) (met_cons S' x)
                case measure => simp [intOf]; omega
              case false =>
                have HS2 : Hid (step2 dc (x : Int) S' = (((S'.met (x : Int))).hold (d : Int)).take (x : Int)) := by
                  unfold step2
                  rw [HMET.out, if_pos HBT.out, HDC.out]
                  exact rfl
                have C35 := hide (take_any K (((S'.met (x : Int))).hold (d : Int)) x (w6.setCell ⟨K.hb, d, none⟩ (.bool true)) ⟨_, _, hl2⟩ hxN hN (by show ((S'.met (x : Int))).chosen.length ≤ _; rw [(met_chosen S' x)]; omega))
                clear hmay hl2 hla6
                go_wp2_with fail
                refine C35.out.mono ?_
                rintro e w7 ⟨rfl, hl7, hb7⟩
                have HL7 := hide hl7
                have HB7 : Hid (Below w0.heap.size w0 w7) := hB2.out.trans (by rw [← HG.out.base]; exact hb7)
                clear hl7 hb7 C35 hB2
                go_wp2_with fail
                go_roundw
                case rel =>
                  refine ⟨k + 1, mm + 1, by omega, by omega, by go_num, by go_num, _, ?_, HST.out⟩
                  rw [HS2.out]
                  exact HC'.out.step HL7.out HB7.out (.inr ⟨x, by show ((S'.met (x : Int))).chosen ++ _ = _; rw [(met_chosen S' x)], hxN⟩) (met_cons S' x)
                case measure => simp [intOf]; omega
  case rest =>
  have HC2 := hide hcut
  obtain ⟨w4, rfl⟩ : ∃ w4, w4 = wc := ⟨_, rfl⟩
  obtain ⟨s2, s3, s4, s5, s6⟩ := (HG.out.ring.keep hcut.below).cells
  rw [← HL.out] at s4
  rw [← HLK.out] at s5
  clear hcut t2 t3 t4 t5 t6 HC1
  have HFN : Hid (FIN = (run3 count (rot pts wk) S2).done) := by
    rw [HFIN.out, HS2.out, HS1.out, HP1.out]
    have e : (if (pf && up && decide (D < n)) = true then (run1 dc D (rot pts wk) S).clear else S) = (if pf = true ∧ up = true ∧ D < n then (run1 dc D (rot pts wk) S).clear else S) := by
      by_cases h : pf = true ∧ up = true ∧ D < n
      · rw [if_pos h, if_pos (by simp [h])]
      · rw [if_neg h, if_neg (by simpa [Bool.and_assoc] using h)]
    rw [e]
    exact rfl
  clear HFIN HS1 HS2 HP1
  go_upto_block 4 with fail
  go_cut [] from 196 to 243 (fun w5 => Carry w0 K w5 (run3 count (rot pts wk) S2) 131072)
  case first =>
    go_wp2_with fail
    go_loopw [29, 30] (fun i x wr => ∃ k : Nat, k ≤ L ∧ i = .int .i64 k ∧ Loop3 w0 K count (rot pts wk) (run3 count (rot pts wk) S2) 65536 k wr) (fun i x _ => L - (intOf i).toNat)
    case atStart => exact ⟨0, Nat.zero_le _, rfl, S2, HC2.out, rfl⟩
    case round =>
      obtain ⟨k, hk, rfl, S', hC', hrun⟩ := hrel
      have HR := hide hrun
      clear hrun
      obtain ⟨v', vc', hLA⟩ := hC'.live
      obtain ⟨va, vcap, rfl⟩ := hLA.form
      obtain ⟨q2, q3, q4, q5, q6⟩ := (HG.out.ring.keep hC'.below).cells
      rw [← HL.out] at q4
      rw [← HLK.out] at q5
      have b1 := hLA.boxCell.1
      have HC' := hide hC'
      have HLA := hide hLA
      clear hC' hLA
      by_cases hlt : k < L
      case neg =>
        obtain rfl : k = L := by omega
        go_wp2
        go_meet
        case rel =>
          have e2 := HR.out
          rw [HL.out, rot_drop_all pts wk (by rw [← HL.out]; exact hwk), run3] at e2
          rw [← e2]
          exact HC'.out.more (by omega)
      have hltI : (k : Int) < (L : Int) := by omega
      by_cases hcd : (S'.chosen.length : Int) < count
      case neg =>
        go_wp2
        go_meet
        case rel =>
          have e2 := HR.out
          rw [rot_at pts wk k (by rw [← HL.out]; exact hwk) (by rw [← HL.out]; exact hlt), run3, if_neg (by omega)] at e2
          rw [← e2]
          exact HC'.out.more (by omega)
      have hj0 : Int.tmod ((wk : Int) + (k : Int)) (L : Int) = (((wk + k) % L : Nat) : Int) := by
        rw [← Int.natCast_add]; exact (Int.ofNat_tmod _ _)
      have hjlt : (wk + k) % L < L := Nat.mod_lt _ (by omega)
      obtain ⟨j, hj⟩ : ∃ j, j = (wk + k) % L := ⟨_, rfl⟩
      rw [← hj] at hj0 hjlt
      have HJ := hide hj
      have hL0 : ¬ ((L : Int) = 0) := by omega
      obtain ⟨x, hx, hxN⟩ := HG.out.ptsIn.nat (j := j) (by rw [← HL.out]; exact hjlt)
      have cx := (HG.out.ring.keep HC'.out.below).points.node j (by rw [← HL.out]; exact hjlt)
      rw [hx] at cx
      have HX := hide hx
      have hxI : (x : Int) < (K.N : Int) := by omega
      have ct := HLA.out.takenCell hxN
      have cbx := HLA.out.flagBox
      have HSEQ : Hid ((rot pts wk).drop k = (x : Int) :: (rot pts wk).drop (k + 1)) := by
        have := rot_at pts wk k (by rw [← HL.out]; exact hwk) (by rw [← HL.out]; exact hlt)
        rw [← HL.out, ← HJ.out, HX.out] at this
        exact this
      have HRUN : Hid (run3 count ((rot pts wk).drop (k + 1)) (step3 (x : Int) S') = run3 count (rot pts wk) S2) := by
        have := HR.out
        rw [HSEQ.out, run3, if_pos hcd] at this
        exact this
      have HB := hide HC'.out.below
      have hfw := HC'.out.few
      have hfc := HC'.out.fewC
      clear hj hx
      obtain ⟨b, hb⟩ : ∃ b, b = S'.taken.getD x false := ⟨_, rfl⟩
      rw [← hb] at ct
      have HBB : Hid (S'.isTaken (x : Int) = b) := hb.symm
      clear hb
      go_wp2_with fail
      go_quiet (fail)
      cases b
      case true =>
        go_wp2_with fail
        go_roundw
        case rel =>
          refine ⟨k + 1, by omega, by go_num, S', ?_, ?_⟩
          · exact HC'.out.step ⟨_, _, HLA.out.drewN nq⟩ (below_drewN HB.out nq) (.inl rfl) (by omega)
          · have e : step3 (x : Int) S' = S' := by
              unfold step3
              rw [if_neg (by rw [HBB.out]; simp)]
            have := HRUN.out
            rw [e] at this
            exact this
        case measure => simp [intOf]; omega
      case false =>
        rcases hs : K.sub with _ | ⟨s, o⟩
        · have e0 := HSP.out
          rw [hs] at e0
          have e0' : sp = none := e0
          subst e0'
          obtain ⟨hmay, hmet⟩ := HLA.out.may_none hs (x : Int)
          have HMET : Hid (S'.met (x : Int) = S') := hmet
          clear hs e0 hmet
          have HS3 : Hid (step3 (x : Int) S' = (S').take (x : Int)) := by
            unfold step3
            rw [if_pos ⟨HBB.out, hmay⟩, HMET.out]
            exact rfl
          have hl2 := (HLA.out.drewN nq)
          have hB2 : Hid (Below w0.heap.size w0 (wr.drewN nq)) := (below_drewN HB.out nq)
          have C35 := hide (take_any K S' x (wr.drewN nq) ⟨_, _, hl2⟩ hxN hN (by rw [(show S'.chosen = S'.chosen from rfl)]; omega))
          clear hmay hl2
          go_wp2_with fail
          refine C35.out.mono ?_
          rintro e w7 ⟨rfl, hl7, hb7⟩
          have HL7 := hide hl7
          have HB7 : Hid (Below w0.heap.size w0 w7) := hB2.out.trans (by rw [← HG.out.base]; exact hb7)
          clear hl7 hb7 C35 hB2
          go_wp2_with fail
          go_roundw
          case rel =>
            refine ⟨k + 1, by omega, by go_num, _, ?_, HRUN.out⟩
            rw [HS3.out]
            exact HC'.out.step HL7.out HB7.out (.inr ⟨x, by show (S').chosen ++ _ = _; rw [(show S'.chosen = S'.chosen from rfl)], hxN⟩) (by show S'.cons.length ≤ _; omega)
          case measure => simp [intOf]; omega
        · have e0 := HSP.out
          rw [hs] at e0
          have e0' : sp = some ⟨s, 0, none⟩ := e0
          subst e0'
          have C36 := hide (meets_any K S' s o x (wr.drewN nq) hs ⟨_, _, HLA.out.drewN nq⟩ hxN hN (by omega))
          have HSUB := hide hs
          clear e0 hs
          go_wp2_with fail
          refine C36.out.mono ?_
          rintro e w6 ⟨rfl, hl6, hb6⟩
          have HL6 := hide hl6
          have HB6 : Hid (Below w0.heap.size w0 w6) := (below_drewN HB.out nq).trans (by rw [← HG.out.base]; exact hb6)
          clear hl6 hb6 C36
          cases hmay : S'.may (x : Int)
          case false =>
            have HMAY := hide hmay
            clear hmay
            go_wp2_with fail
            go_roundw
            case rel =>
              have em := met_of_may HMAY.out
              refine ⟨k + 1, by omega, by go_num, S', ?_, ?_⟩
              · have hl := HL6.out
                rw [em] at hl
                exact HC'.out.step hl HB6.out (.inl rfl) (by omega)
              · have e : step3 (x : Int) S' = S' := by
                  unfold step3
                  rw [if_neg (by rw [HMAY.out]; simp)]
                have := HRUN.out
                rw [e] at this
                exact this
            case measure => simp [intOf]; omega
          case true =>
            obtain ⟨v6, vc6, hla6⟩ := HL6.out
            have HMET : Hid (S'.met (x : Int) = S'.met (x : Int)) := rfl
            have HS3 : Hid (step3 (x : Int) S' = ((S'.met (x : Int))).take (x : Int)) := by
              unfold step3
              rw [if_pos ⟨HBB.out, hmay⟩, HMET.out]
              exact rfl
            have hl2 := hla6
            have hB2 : Hid (Below w0.heap.size w0 w6) := HB6.out
            have C35 := hide (take_any K (S'.met (x : Int)) x w6 ⟨_, _, hl2⟩ hxN hN (by rw [(met_chosen S' x)]; omega))
            clear hmay hl2 hla6
            go_wp2_with fail
            refine C35.out.mono ?_
            rintro e w7 ⟨rfl, hl7, hb7⟩
            have HL7 := hide hl7
            have HB7 : Hid (Below w0.heap.size w0 w7) := hB2.out.trans (by rw [← HG.out.base]; exact hb7)
            clear hl7 hb7 C35 hB2
            go_wp2_with fail
            go_roundw
            case rel =>
              refine ⟨k + 1, by omega, by go_num, _, ?_, HRUN.out⟩
              rw [HS3.out]
              exact HC'.out.step HL7.out HB7.out (.inr ⟨x, by show ((S'.met (x : Int))).chosen ++ _ = _; rw [(met_chosen S' x)], hxN⟩) (met_cons S' x)
            case measure => simp [intOf]; omega
  case rest =>
  have HC3 := hide hcut
  obtain ⟨w5, rfl⟩ : ∃ w5, w5 = wc := ⟨_, rfl⟩
  obtain ⟨S3, hS3⟩ : ∃ S3, S3 = run3 count (rot pts wk) S2 := ⟨_, rfl⟩
  rw [← hS3] at HFN HC3
  obtain ⟨v', vc', hLA⟩ := HC3.out.live
  obtain ⟨va, vcap, rfl⟩ := hLA.form
  have b1 := hLA.boxCell.1
  have HLA := hide hLA
  obtain ⟨nn, hnn⟩ : ∃ nn, nn = S3.chosen.length := ⟨_, rfl⟩
  have hnb : nn ≤ 131072 := by rw [hnn]; exact HC3.out.few
  rw [← hnn] at b1
  have HNN := hide hnn
  clear hcut hLA s2 s3 s4 s5 s6 HC2 hS3 hnn
  go_wp2_with fail
  go_loopw [32, 246] (fun x i wr => ∃ k : Nat, k ≤ nn ∧ i = .int .i64 k ∧ Hid (LiveAt K wr { S3 with taken := untake (S3.chosen.take k) S3.taken } (.slice va S3.chosen.length vcap) vc') ∧ Hid (Below w0.heap.size w0 wr)) (fun x i _ => nn - (intOf i).toNat)
  case atStart => exact ⟨0, Nat.zero_le _, rfl, HLA.out, HC3.out.below⟩
  case round =>
    obtain ⟨k, hk, rfl, hl, hb⟩ := hrel
    by_cases hlt : k < nn
    · have hltI : (k : Int) < (nn : Int) := by omega
      have hkl : k < S3.chosen.length := by rw [← HNN.out]; exact hlt
      obtain ⟨x, hx, hxN⟩ : ∃ x : Nat, S3.chosen[k] = (x : Int) ∧ x < K.N := by
        obtain ⟨h0, h1⟩ := HC3.out.within _ (List.getElem_mem hkl)
        exact ⟨S3.chosen[k].toNat, by omega, by omega⟩
      obtain ⟨g, hg, cx⟩ : ∃ g, va = some ⟨g, 0, none⟩ ∧ wr.cell? ⟨g, k, none⟩ = some (.int .i64 (x : Int)) := by
        rcases hl.out.kv.2 with ⟨hv, hn0⟩ | ⟨g, cap, cur, hv, _, _⟩
        · have : S3.chosen.length = 0 := hn0
          omega
        · injection hv with h1 h2 h3
          subst h1
          have := (Own.of_ownsRow hl.out.kv).1.cell hkl
          refine ⟨g, rfl, ?_⟩
          rw [this]
          exact congrArg _ (congrArg _ hx)
      subst hg
      have hxI : (x : Int) < (K.N : Int) := by omega
      have ct := hl.out.takenCell hxN
      have ft := hl.out.kt.frozen x
      have cbx := hl.out.flagBox
      have HX := hide hx
      clear hx
      go_wp2_with fail
      go_roundw
      case rel =>
        refine ⟨k + 1, by omega, by go_num, ?_, hb.out.setCell (by rw [← HG.out.base]; exact hl.out.low _ LiveAt.mem_kb) _⟩
        have := hl.out.setTaken x false
        have e : untake (S3.chosen.take (k + 1)) S3.taken = (untake (S3.chosen.take k) S3.taken).set x false := by
          rw [List.take_succ_eq_append_getElem hkl]
          unfold untake
          rw [List.foldl_append, HX.out]
          rfl
        rw [e]
        exact this
      case measure => simp [intOf]; omega
    · obtain rfl : k = nn := by omega
      have b2 := hl.out.boxCell.1
      go_wp2_with fail
      go_ret
      refine ⟨_, vc', rfl, ?_, hb.out⟩
      have := hl.out
      rw [HFN.out]
      rw [HNN.out, List.take_length] at this
      exact this
#print axioms list_any
end Go.Proofs.Qxb6604780a
