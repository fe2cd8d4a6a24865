/-
  The walk of send: one entry is turned, and the summaries and supports with it.
-/
import Derived.Test.Qxb6604777aSendLaw
import Derived.Test.Qxb6604777aTally
namespace Go.Proofs.Qxb6604777a
set_option linter.unusedSimpArgs false
set_option linter.unusedVariables false
open Go.RowKit

section
variable {w w' : World} {T bx bi br bs bu n0 M K n2 : Nat} {ac : Option Addr} {v1 V : Value} {idx : List Int} {inputs rec : List ByteArray} {ps es : List Int} {rs : List ByteArray} {sup : List Int}
/-- The rows that send writes lie apart from the others. -/
structure Apart3 (bx bi br bs : Nat) : Prop where
  rx : br ≠ bx
  ri : br ≠ bi
  rs : br ≠ bs
  sx : bs ≠ bx
  si : bs ≠ bi
theorem TalW.setRec (h : TalW w T bx bi br bs bu n0 M K n2 ac v1 V idx inputs rec ps es rs sup) (ha : Apart3 bx bi br bs) (i : Nat) (v : ByteArray) : TalW (w.setCell ⟨br, i, none⟩ (.string v)) T bx bi br bs bu n0 M K n2 ac v1 V idx inputs (rec.set i v) ps es rs sup := by
  obtain ⟨h1, h2, h3, h4, h5, h6, h7, h8, h9⟩ := h.apart
  exact ⟨h.tal.of_block (Below.heap_setCell _ _ _ _ (by exact h8)), h.index.other (by exact fun e => ha.rx e.symm) _, h.ins.other (by exact fun e => ha.ri e.symm) _, h.recs.set i v, h.shown.of_block (Below.heap_setCell _ _ _ _ (by exact fun e => ha.rs e.symm)), h.sup.other (by exact h4) _, h.apart⟩
theorem TalW.setShown (h : TalW w T bx bi br bs bu n0 M K n2 ac v1 V idx inputs rec ps es rs sup) (ha : Apart3 bx bi br bs) {f : Nat} {P E : Int} {R : ByteArray} (hs : Sh w w' bs K f ps es rs P E R) : TalW w' T bx bi br bs bu n0 M K n2 ac v1 V idx inputs rec (ps.set f P) (es.set f E) (rs.set f R) sup := by
  obtain ⟨h1, h2, h3, h4, h5, h6, h7, h8, h9⟩ := h.apart
  exact ⟨h.tal.of_block (hs.other _ h9), h.index.of_block (hs.other _ (fun e => ha.sx e.symm)), h.ins.of_block (hs.other _ (fun e => ha.si e.symm)), h.recs.of_block (hs.other _ ha.rs), hs.shown, h.sup.of_block (hs.other _ h5), h.apart⟩

theorem counts_tal (h : TalW w T bx bi br bs bu n0 M K n2 ac v1 (.slice none 0 0) idx inputs rec ps es rs sup) (hM : M ≤ 65536) (hl2 : n2 ≤ 65536) (f o : Nat) (ho : o < M) (hroom : f * M + M ≤ n2) (kr : rec.length = n2) (ki : inputs.length = M) (ag : Bool) (iz : Int) (hiz : iz = (f : Int) * (M : Int) + (o : Int)) :
    Calls Try.prog 37 #[.pointer (some ⟨T, 0, none⟩), .int .i64 iz, .bool ag] w fun e w' => e = .returned (.int .i64 (cntV (rec.getD (f * M + o) emptyS) (inputs.getD o emptyS) ag false)) ∧ ∃ q, w' = w.drewN q := by
  have hir : f * M + o < rec.length := by omega
  have hii : o < inputs.length := by omega
  have hmod : (f * M + o) % M = o := by rw [Nat.mul_comm, Nat.mul_add_mod]; exact Nat.mod_eq_of_lt ho
  have e2 : rec.getD (f * M + o) emptyS = rec[f * M + o] := by rw [List.getD_eq_getElem?_getD, List.getElem?_eq_getElem hir]; rfl
  have e3 : inputs.getD o emptyS = inputs[o] := by rw [List.getD_eq_getElem?_getD, List.getElem?_eq_getElem hii]; rfl
  rw [e2, e3]
  exact counts_any T (f * M + o) iz (by rw [hiz]; simp) bi br n2 M n0 ac rec[f * M + o] inputs[o] ag false _ _ _ _ _ _ _ w (by omega) hl2 (by omega) hM h.tal (h.recs.cell hir) (by rw [hmod]; exact h.ins.cell hii) (.inl ⟨rfl, rfl⟩)
end

theorem wrap_small (x : Int) (h1 : -9223372036854775808 ≤ x) (h2 : x ≤ 9223372036854775807) : IntKind.i64.wrap x = x := by
  rw [IntKind.wrap_i64]
  omega

/-- What an entry counts for. -/
def cntG (M : Nat) (inputs rec : List ByteArray) (f o : Nat) (g : Bool) : Int := cntV (rec.getD (f * M + o) emptyS) (inputs.getD o emptyS) g false
theorem cntG_bounds (M : Nat) (inputs rec : List ByteArray) (f o : Nat) (g : Bool) : 0 ≤ cntG M inputs rec f o g ∧ cntG M inputs rec f o g ≤ 1 := cntV_bounds _ _ _ _
theorem sendD_far (M : Nat) (inputs rec : List ByteArray) (f c o : Nat) (v : ByteArray) (ag ag' : Bool) (hc : c < M) (ho : o < M) (hoc : o ≠ c) :
    sendD M inputs rec (rec.set (f * M + c) v) f o ag ag' = cntG M inputs (rec.set (f * M + c) v) f o ag' - cntG M inputs (rec.set (f * M + c) v) f o ag := by
  unfold sendD cntG
  rw [getD_set_ne rec (f * M + c) (f * M + o) (by omega)]
theorem drewN_drewN (w : World) (p q : Nat) : (w.drewN p).drewN q = w.drewN (p + q) := by simp [World.drewN, Nat.add_assoc]

/-- What send leaves. -/
structure SentAt (w w' : World) (T bx bi br bs bu n0 M K n2 : Nat) (ac : Option Addr) (v1 : Value) (idx : List Int) (inputs rec : List ByteArray) (ps es : List Int) (rs : List ByteArray) (sup : List Int) : Prop where
  tal : TalW w' T bx bi br bs bu n0 M K n2 ac v1 (.slice none 0 0) idx inputs rec ps es rs sup
  low : ∀ C (x : World), C ≤ br → C ≤ bs → C ≤ bu → C ≤ w.heap.size → Below C x w → Below C x w'
  other : ∀ k, k < w.heap.size → k ≠ br → k ≠ bs → k ≠ bu → w'.heap[k]? = w.heap[k]?
  size : w.heap.size ≤ w'.heap.size

section
variable {w w' w'' : World} {T bx bi br bs bu n0 M K n2 : Nat} {ac : Option Addr} {v1 : Value} {idx : List Int} {inputs rec : List ByteArray} {ps es : List Int} {rs : List ByteArray} {sup : List Int}
theorem SentAt.start (h : TalW w T bx bi br bs bu n0 M K n2 ac v1 (.slice none 0 0) idx inputs rec ps es rs sup) : SentAt w w T bx bi br bs bu n0 M K n2 ac v1 idx inputs rec ps es rs sup :=
  ⟨h, fun _ _ _ _ _ _ h => h, fun _ _ _ _ _ => rfl, Nat.le_refl _⟩
theorem SentAt.keep (h : SentAt w w' T bx bi br bs bu n0 M K n2 ac v1 idx inputs rec ps es rs sup) (hb : Below w'.heap.size w' w'') : SentAt w w'' T bx bi br bs bu n0 M K n2 ac v1 idx inputs rec ps es rs sup :=
  ⟨h.tal.keep hb, fun C x h1 h2 h3 h4 hx => (h.low C x h1 h2 h3 h4 hx).trans (hb.mono (Nat.le_trans h4 h.size)), fun k hk h1 h2 h3 => (hb.block k (Nat.lt_of_lt_of_le hk h.size)).trans (h.other k hk h1 h2 h3), Nat.le_trans h.size hb.size⟩
theorem SentAt.setRec (h : SentAt w w' T bx bi br bs bu n0 M K n2 ac v1 idx inputs rec ps es rs sup) (ha : Apart3 bx bi br bs) (i : Nat) (v : ByteArray) : SentAt w (w'.setCell ⟨br, i, none⟩ (.string v)) T bx bi br bs bu n0 M K n2 ac v1 idx inputs (rec.set i v) ps es rs sup :=
  ⟨h.tal.setRec ha i v, fun C x h1 h2 h3 h4 hx => (h.low C x h1 h2 h3 h4 hx).setCell (by exact h1) _, fun k hk h1 h2 h3 => (Below.heap_setCell _ _ _ _ h1).trans (h.other k hk h1 h2 h3), by simpa using h.size⟩
theorem SentAt.setSup (h : SentAt w w' T bx bi br bs bu n0 M K n2 ac v1 idx inputs rec ps es rs sup) (i : Nat) (x : Int) : SentAt w (w'.setCell ⟨bu, i, none⟩ (.int .i64 x)) T bx bi br bs bu n0 M K n2 ac v1 idx inputs rec ps es rs (sup.set i x) :=
  ⟨h.tal.setSup i x, fun C x h1 h2 h3 h4 hx => (h.low C x h1 h2 h3 h4 hx).setCell (by exact h3) _, fun k hk h1 h2 h3 => (Below.heap_setCell _ _ _ _ h3).trans (h.other k hk h1 h2 h3), by simpa using h.size⟩
theorem SentAt.setShown (h : SentAt w w' T bx bi br bs bu n0 M K n2 ac v1 idx inputs rec ps es rs sup) (ha : Apart3 bx bi br bs) {f : Nat} {P E : Int} {R : ByteArray} (hs : Sh w' w'' bs K f ps es rs P E R) : SentAt w w'' T bx bi br bs bu n0 M K n2 ac v1 idx inputs rec (ps.set f P) (es.set f E) (rs.set f R) sup :=
  ⟨h.tal.setShown ha hs, fun C x h1 h2 h3 h4 hx => hs.low C x h2 (h.low C x h1 h2 h3 h4 hx), fun k hk h1 h2 h3 => (hs.other k h2).trans (h.other k hk h1 h2 h3), by rw [hs.size]; exact h.size⟩
end

set_option maxRecDepth 100000 in
set_option maxHeartbeats 1000000 in
theorem send_skip (T bx bi br bs bu n0 M K n2 : Nat) (ac : Option Addr) (v1 V : Value) (idx : List Int) (inputs rec : List ByteArray) (ps es : List Int) (rs : List ByteArray) (sup : List Int) (w : World) (A B f c : Nat) (v : ByteArray)
    (h : TalW w T bx bi br bs bu n0 M K n2 ac v1 V idx inputs rec ps es rs sup) (hN : TalN n0 M K n2 idx inputs rec sup A B f c) (hir : f * M + c < rec.length) (he : (v.toList == rec[f * M + c].toList) = true) :
    Calls Try.prog 27 #[.pointer (some ⟨T, 0, none⟩), .int .i64 ((A : Int) + 1), .int .i64 ((B : Int) + 1), .string v] w fun e w' => e = .returned (.tuple #[]) ∧ ∃ q, w' = w.drewN q := by
  obtain ⟨hl0, hlM, hlK, hl2, hn2, hxl, hil, hrl, hsl, hfK, hcM, hA, hB, hiA, hiB, hs0⟩ := hN
  have h0 := h.tal.c0
  have h2 := h.tal.c2
  have h6 := h.tal.c6
  have hA0 : (A : Int) < (n0 : Int) := by omega
  have hB0 : (B : Int) < (n0 : Int) := by omega
  have xA : w.cell? ⟨bx, A, none⟩ = some (.int .i64 f) := by rw [← hiA, ← getD_int idx A (by omega)]; exact h.index.cell (by omega)
  have xB : w.cell? ⟨bx, B, none⟩ = some (.int .i64 c) := by rw [← hiB, ← getD_int idx B (by omega)]; exact h.index.cell (by omega)
  have hm := mul_le_room hn2 hfK
  have hi0 : (0 : Int) ≤ (f : Int) * (M : Int) := by omega
  have hi1 : (f : Int) * (M : Int) + (M : Int) ≤ (n2 : Int) := by omega
  have hrc : w.cell? ⟨br, f * M + c, none⟩ = some (.string rec[f * M + c]) := h.recs.cell hir
  clear hn2 hxl hil hrl hsl hiA hiB hs0 h
  go_enter Try.func27, Try.ntmps27
  go_wp2
  go_quiet (fail)
  go_wp2
  exact bodyPost_ret (results_none rfl _ _ _) rfl ⟨rfl, _, rfl⟩

set_option maxRecDepth 100000 in
set_option maxHeartbeats 4000000 in
theorem send_any (T bx bi br bs bu n0 M K n2 : Nat) (ac : Option Addr) (v1 : Value) (idx : List Int) (inputs rec : List ByteArray) (ps es : List Int) (rs : List ByteArray) (sup : List Int) (w : World) (A B f c : Nat) (v : ByteArray) (P E : Int) (R : ByteArray)
    (h : TalW w T bx bi br bs bu n0 M K n2 ac v1 (.slice none 0 0) idx inputs rec ps es rs sup) (ha : Apart3 bx bi br bs) (hN : TalN n0 M K n2 idx inputs rec sup A B f c)
    (hps : ps.length = K) (hes : es.length = K) (hrs : rs.length = K) (hP : ps.getD f 0 = P) (hE : es.getD f 0 = E) (hR : rs.getD f emptyS = R) (hPb : 0 ≤ P ∧ P ≤ 65536) (hEb : 0 ≤ E ∧ E ≤ 65536)
    (hir : f * M + c < rec.length) (he : (v.toList == rec[f * M + c].toList) = false) :
    Calls Try.prog 27 #[.pointer (some ⟨T, 0, none⟩), .int .i64 ((A : Int) + 1), .int .i64 ((B : Int) + 1), .string v] w fun e w' => e = .returned (.tuple #[]) ∧
      SentAt w w' T bx bi br bs bu n0 M K n2 ac v1 idx inputs (rec.set (f * M + c) v) (ps.set f (shP P rec[f * M + c] v)) (es.set f (shE P E R rec[f * M + c] v)) (rs.set f (shR P R rec[f * M + c] v))
        (sendM M sup c M (fun o => sendD M inputs rec (rec.set (f * M + c) v) f o (P == E) (shP P rec[f * M + c] v == shE P E R rec[f * M + c] v))) := by
  have HH := hide h
  have HA := hide ha
  have HPS := hide hps
  have HES := hide hes
  have HRS := hide hrs
  obtain ⟨hl0, hlM, hlK, hl2, hn2, hxl, hil, hrl, hsl, hfK, hcM, hA, hB, hiA, hiB, hs0⟩ := hN
  have HIL := hide hil
  have HRL := hide hrl
  have HSL := hide hsl
  have HS0 := hide hs0
  have h0 := h.tal.c0
  have h2 := h.tal.c2
  have h6 := h.tal.c6
  have h8 := h.tal.c8
  have hA0 : (A : Int) < (n0 : Int) := by omega
  have hB0 : (B : Int) < (n0 : Int) := by omega
  have xA : w.cell? ⟨bx, A, none⟩ = some (.int .i64 f) := by rw [← hiA, ← getD_int idx A (by omega)]; exact h.index.cell (by omega)
  have xB : w.cell? ⟨bx, B, none⟩ = some (.int .i64 c) := by rw [← hiB, ← getD_int idx B (by omega)]; exact h.index.cell (by omega)
  have hm := mul_le_room hn2 hfK
  have hi0 : (0 : Int) ≤ (f : Int) * (M : Int) := by omega
  have hi1 : (f : Int) * (M : Int) + (M : Int) ≤ (n2 : Int) := by omega
  have hrc : w.cell? ⟨br, f * M + c, none⟩ = some (.string rec[f * M + c]) := h.recs.cell hir
  have y0 : w.cell? ⟨bs, f * 3, none⟩ = some (.int .i64 P) := by rw [← hP]; exact h.shown.p f hfK
  have y1 : w.cell? ⟨bs, f * 3 + 1, none⟩ = some (.int .i64 E) := by rw [← hE]; exact h.shown.e f hfK
  have y2 : w.cell? ⟨bs, f * 3 + 2, none⟩ = some (.string R) := by rw [← hR]; exact h.shown.r f hfK
  have hfI : (f : Int) < (K : Int) := by omega
  have HP := hide hP
  have HE := hide hE
  have HR := hide hR
  have HRG : Hid (rec.getD (f * M + c) emptyS = rec[f * M + c]) := by
    show rec.getD (f * M + c) emptyS = rec[f * M + c]
    rw [List.getD_eq_getElem?_getD, List.getElem?_eq_getElem hir]; rfl
  obtain ⟨old, hold⟩ : ∃ old, rec[f * M + c] = old := ⟨_, rfl⟩
  rw [hold] at HRG he hrc
  rw [hold]
  obtain ⟨P', hP'⟩ : ∃ P', shP P old v = P' := ⟨_, rfl⟩
  obtain ⟨E', hE'⟩ : ∃ E', shE P E R old v = E' := ⟨_, rfl⟩
  obtain ⟨R', hR'⟩ : ∃ R', shR P R old v = R' := ⟨_, rfl⟩
  obtain ⟨ag, hag⟩ : ∃ ag : Bool, (P == E) = ag := ⟨_, rfl⟩
  obtain ⟨ag', hag'⟩ : ∃ ag' : Bool, (P' == E') = ag' := ⟨_, rfl⟩
  rw [hP', hE', hR', hag, hag']
  obtain ⟨d, hd⟩ : ∃ d : Nat → Int, (fun o => sendD M inputs rec (rec.set (f * M + c) v) f o ag ag') = d := ⟨_, rfl⟩
  rw [hd]
  have HD : Hid (∀ o, d o = sendD M inputs rec (rec.set (f * M + c) v) f o ag ag') := fun o => by rw [← hd]
  clear hd
  have HP' := hide hP'
  have HE' := hide hE'
  have HR' := hide hR'
  have HAG := hide hag
  have HAG' := hide hag'
  clear hP' hE' hR' hag hag'
  clear hold hn2 hxl hil hrl hsl hiA hiB hs0 h ha hps hes hrs hP hE hR
  go_enter Try.func27, Try.ntmps27
  go_wp2
  go_quiet (fail)
  go_wp2_with fail
  refine (agrees_any P E R _).mono ?_
  rintro e w1 ⟨rfl, hb1, _⟩
  have hb1' : Below w.heap.size w w1 := (drewN_below w nq).trans hb1
  have T1 := hide ((SentAt.start HH.out).keep hb1')
  clear h0 h2 h6 h8 xA xB hrc y0 y1 y2 hb1 hb1'
  have C37 := hide (counts_tal T1.out.tal hlM hl2 f c hcM hm HRL.out HIL.out (P == E) ((f : Int) * (M : Int) + (c : Int)) rfl)
  rw [HAG.out] at C37
  rw [HAG.out]
  go_wp2_with fail
  refine C37.out.mono ?_
  rintro e w' ⟨rfl, q, rfl⟩
  obtain ⟨N0, hN0⟩ : ∃ N0, cntV (rec.getD (f * M + c) emptyS) (inputs.getD c emptyS) ag false = N0 := ⟨_, rfl⟩
  have hN0b : 0 ≤ N0 ∧ N0 ≤ 1 := by rw [← hN0]; exact cntV_bounds _ _ _ _
  rw [hN0]
  have T2 := hide (T1.out.keep (drewN_below w1 q))
  have HN0 := hide hN0
  clear hN0
  have k6 := T2.out.tal.tal.c6
  obtain ⟨u0, hu0⟩ := T2.out.tal.recs.there (i := f * M + c) (by omega)
  have hu1 := T2.out.tal.recs.frozen (f * M + c)
  go_upto_region 7 with fail
  obtain ⟨w2, hw2⟩ : ∃ w2, w2 = (w1.drewN q).setCell ⟨br, f * M + c, none⟩ (.string v) := ⟨_, rfl⟩
  rw [← hw2]
  have T3 : Hid (SentAt w w2 T bx bi br bs bu n0 M K n2 ac v1 idx inputs (rec.set (f * M + c) v) ps es rs sup) := by rw [hw2]; exact T2.out.setRec HA.out _ _
  clear hw2 k6 hu0 hu1
  have C33 := hide (show_any T bs K f P E R old v _ _ _ _ _ _ _ _ _ ps es rs w2 hfK hlK T3.out.tal.tal T3.out.tal.shown HPS.out HES.out HRS.out HP.out HE.out HR.out hPb hEb)
  go_wp2_with fail
  refine C33.out.mono ?_
  rintro e w3 ⟨rfl, hSh⟩
  have T4 := hide (T3.out.setShown HA.out hSh)
  rw [HP'.out, HE'.out, HR'.out] at T4 hSh
  have k8 := T4.out.tal.tal.c8
  have y0 : w3.cell? ⟨bs, f * 3, none⟩ = some (.int .i64 P') := by rw [hSh.shown.p f hfK, getD_set_same _ _ (by have := HPS.out; omega)]
  have y1 : w3.cell? ⟨bs, f * 3 + 1, none⟩ = some (.int .i64 E') := by rw [hSh.shown.e f hfK, getD_set_same _ _ (by have := HES.out; omega)]
  have y2 : w3.cell? ⟨bs, f * 3 + 2, none⟩ = some (.string R') := by rw [hSh.shown.r f hfK, getD_set_same _ _ (by have := HRS.out; omega)]
  clear hSh C33 C37 T1 T2 T3
  go_wp2_with fail
  refine (agrees_any P' E' R' _).mono ?_
  rintro e w4 ⟨rfl, hb4, _⟩
  have T5 := hide (T4.out.keep hb4)
  clear k8 y0 y1 y2 T4 hb4
  rw [HAG'.out]
  go_upto_region 9 with fail
  go_cut [] (fun wc => SentAt w wc T bx bi br bs bu n0 M K n2 ac v1 idx inputs (rec.set (f * M + c) v) (ps.set f P') (es.set f E') (rs.set f R') (sendM M sup c 0 d))
  case first =>
    have k9 := T5.out.tal.tal.c9
    have hcs : c < sup.length := by have := HSL.out; omega
    have hsf := T5.out.tal.sup.frozen c
    obtain ⟨S, hS⟩ : ∃ S, sup.getD c 0 = S := ⟨_, rfl⟩
    have hSb : 0 ≤ S ∧ S ≤ 65536 := by rw [← hS, ← getD_int sup c hcs]; exact HS0.out _ (List.getElem_mem hcs)
    have hsc : w4.cell? ⟨bu, c, none⟩ = some (.int .i64 S) := by rw [← hS, ← getD_int sup c hcs]; exact T5.out.tal.sup.cell hcs
    obtain ⟨N1, hN1⟩ : ∃ N1, cntV ((rec.set (f * M + c) v).getD (f * M + c) emptyS) (inputs.getD c emptyS) ag' false = N1 := ⟨_, rfl⟩
    have hN1b : 0 ≤ N1 ∧ N1 ≤ 1 := by rw [← hN1]; exact cntV_bounds _ _ _ _
    have C37 : Hid (∀ W, (∃ q, W = w4.drewN q) → Calls Try.prog 37 #[.pointer (some ⟨T, 0, none⟩), .int .i64 ((f : Int) * (M : Int) + (c : Int)), .bool ag'] W fun e w' => e = .returned (.int .i64 N1) ∧ ∃ q, w' = w4.drewN q) := by
      rintro W ⟨q, rfl⟩
      have := counts_tal (T5.out.tal.keep (drewN_below w4 q)) hlM hl2 f c hcM hm (by rw [List.length_set]; exact HRL.out) HIL.out ag' ((f : Int) * (M : Int) + (c : Int)) rfl
      rw [hN1] at this
      refine this.mono ?_
      rintro e w' ⟨rfl, q', rfl⟩
      exact ⟨rfl, q + q', drewN_drewN _ _ _⟩
    have hcI : (c : Int) < (M : Int) := by omega
    have HS := hide hS
    have HN1 := hide hN1
    clear hS hN1
    go_region_with (go_at_call 37; refine (C37.out _ ⟨_, rfl⟩).mono ?_; rintro e w5 ⟨rfl, q5, rfl⟩)
    all_goals
      go_wp2_with fail
      go_meet
      case rel =>
        have hh := (T5.out.keep (drewN_below w4 q5)).setSup c (S + (N1 - N0))
        have e0 := HSL.out
        have e1 := HD.out c
        unfold sendD at e1
        rw [HN0.out, HN1.out] at e1
        rw [sendM_zero M sup c d e0 hcM, HS.out, e1, wrap_small (N1 - N0) (by omega) (by omega), wrap_small (S + (N1 - N0)) (by omega) (by omega)]
        exact hh
  case rest =>
    have T6 := hide hcut
    clear hcut T5
    by_cases hne : (!(ag' == ag)) = true
    · have k0 := T6.out.tal.tal.c0
      go_wp2_with fail
      clear k0
      go_loopw [15, 16, 107] (fun o j i wr => ∃ k : Nat, k ≤ M ∧ i = .int .i64 k ∧ SentAt w wr T bx bi br bs bu n0 M K n2 ac v1 idx inputs (rec.set (f * M + c) v) (ps.set f P') (es.set f E') (rs.set f R') (sendM M sup c k d)) (fun _ _ i _ => M - (intOf i).toNat)
      case atStart => exact ⟨0, Nat.zero_le _, rfl, T6.out⟩
      case round =>
        obtain ⟨k, hk, rfl, hT⟩ := hrel
        have T7 := hide hT
        clear hT
        by_cases hlt : k < M
        · have hkI : (k : Int) < (M : Int) := by omega
          have k0 := T7.out.tal.tal.c0
          by_cases hkc : k = c
          · subst hkc
            go_wp2_with fail
            go_roundw
            case rel => exact ⟨k + 1, by omega, by go_num, by rw [sendM_self]; exact T7.out⟩
            case measure => simp [intOf]; omega
          · have hkcI : ((k : Int) == (c : Int)) = false := by simp; omega
            have k9 := T7.out.tal.tal.c9
            have hks : k < (sendM M sup c k d).length := by rw [sendM_length]; exact hlt
            have hsf := T7.out.tal.sup.frozen k
            obtain ⟨S, hS⟩ : ∃ S, sup.getD k 0 = S := ⟨_, rfl⟩
            have hks' : k < sup.length := by have := HSL.out; omega
            have hSb : 0 ≤ S ∧ S ≤ 65536 := by rw [← hS, ← getD_int sup k hks']; exact HS0.out _ (List.getElem_mem hks')
            have hsc : wr.cell? ⟨bu, k, none⟩ = some (.int .i64 S) := by
              have := T7.out.tal.sup.cell hks
              rw [sendM_at, if_neg (by omega), Int.add_zero, hS] at this
              exact this
            have C37 : Hid (∀ (W : World) (g : Bool), (∃ q, W = wr.drewN q) → Calls Try.prog 37 #[.pointer (some ⟨T, 0, none⟩), .int .i64 ((f : Int) * (M : Int) + (k : Int)), .bool g] W fun e w' => e = .returned (.int .i64 (cntG M inputs (rec.set (f * M + c) v) f k g)) ∧ ∃ q, w' = wr.drewN q) := by
              rintro W g ⟨q, rfl⟩
              have := counts_tal (T7.out.tal.keep (drewN_below wr q)) hlM hl2 f k hlt hm (by rw [List.length_set]; exact HRL.out) HIL.out g ((f : Int) * (M : Int) + (k : Int)) rfl
              refine this.mono ?_
              rintro e w' ⟨rfl, q', rfl⟩
              exact ⟨rfl, q + q', drewN_drewN _ _ _⟩
            have hg1 := cntG_bounds M inputs (rec.set (f * M + c) v) f k ag'
            have hg2 := cntG_bounds M inputs (rec.set (f * M + c) v) f k ag
            have HS := hide hS
            clear hS
            go_wp2_with fail
            go_region_with (go_at_call 37; refine (C37.out _ _ ⟨_, rfl⟩).mono ?_; rintro e w6 ⟨rfl, q6, rfl⟩)
            all_goals
              go_wp2_with fail
              go_roundw
              case rel =>
                refine ⟨k + 1, by omega, by go_num, ?_⟩
                have hh := (T7.out.keep (drewN_below wr q6)).setSup k (S + (cntG M inputs (rec.set (f * M + c) v) f k ag' - cntG M inputs (rec.set (f * M + c) v) f k ag))
                rw [sendM_succ M sup c k d hkc hlt, HS.out, HD.out k, sendD_far M inputs rec f c k v ag ag' hcM hlt hkc]
                exact hh
              case measure => simp [intOf]; omega
        · obtain rfl : k = M := by omega
          go_wp2_with fail
          exact bodyPost_end (results_none rfl _ _ _) rfl ⟨rfl, T7.out⟩
    · have hne' : (!(ag' == ag)) = false := by simpa using hne
      have heq : ag' = ag := by simpa using hne
      go_wp2_with fail
      refine bodyPost_end (results_none rfl _ _ _) rfl ⟨rfl, ?_⟩
      rw [sendM_still M sup c M d (fun o ho hoc => by rw [HD.out o, sendD_far M inputs rec f c o v ag ag' hcM ho hoc, heq]; omega)]
      exact T6.out
end Go.Proofs.Qxb6604777a
