/-
  The walk of ZZClaim: claim on a tally made of plain fields, the fields handed back.
-/
import Derived.Test.Qxb6604777aState
import Derived.Test.Qxb6604777aClaimBoth
import Derived.Test.Qxb6604777aTake
namespace Go.Proofs.Qxb6604777a
set_option linter.unusedSimpArgs false
set_option linter.unusedVariables false
open Go.RowKit

/-- The flags behind a claim. -/
def claimVo (M n2 : Nat) (rec : List ByteArray) (vo : Option (List Bool)) (f g : Nat) (v : ByteArray) : Option (List Bool) :=
  if (rec.getD (f * M + g) emptyS).toList == v.toList then vo else some ((flags n2 vo).set (f * M + g) true)
/-- The supports behind a claim. -/
def claimSup (M K : Nat) (inputs rec : List ByteArray) (vo : Option (List Bool)) (f g : Nat) (v : ByteArray) : List Int :=
  if (rec.getD (f * M + g) emptyS).toList == v.toList then supL M inputs rec vo K
  else (supL M inputs rec vo K).set g ((supL M inputs rec vo K).getD g 0 - cntV (rec.getD (f * M + g) emptyS) (inputs.getD g emptyS) ((presL M rec K).getD f 0 == (eqL M rec K).getD f 0) (voidAt vo (f * M + g)))

/-- A tally's fields, as plain data in memory. -/
structure FieldsAt (w : World) (a0 a1 a2 a3 a4 a5 a6 a7 a8 a9 : Option Addr) (m5 : Nat) (mask : List Bool) (n0 M K n2 : Nat) (inputs rec : List ByteArray) (vo : Option (List Bool)) (ps es : List Int) (rs : List ByteArray) (sup : List Int) : Prop where
  corr : Reads (Value.int .i64) w a0 (corrK mask n0)
  faul : Reads (Value.int .i64) w a1 (faulK mask n0)
  idx : Reads (Value.int .i64) w a2 (idxK mask n0)
  ins : Reads Value.string w a3 inputs
  recs : Reads Value.string w a4 rec
  void : (a5 = none ∧ vo = none ∧ m5 = 0) ∨ ∃ p vs, a5 = some p ∧ vo = some vs ∧ m5 = n2 ∧ vs.length = n2 ∧ Reads Value.bool w (some p) vs
  pres : Reads (Value.int .i64) w a6 ps
  eqs : Reads (Value.int .i64) w a7 es
  refs : Reads Value.string w a8 rs
  sups : Reads (Value.int .i64) w a9 sup

set_option maxRecDepth 100000 in
set_option maxHeartbeats 4000000 in
theorem zzClaim_any (c s n0 M K n2 : Nat) (av : Option Addr) (nv cv : Nat) (mask : List Bool) (inputs rec : List ByteArray) (vo : Option (List Bool)) (w : World) (A B f g : Nat) (v : ByteArray)
    (hS : StateAt w c s n0 M K n2 mask inputs rec vo) (hV : Value.slice av nv cv = voidV s n2 vo) (hvl : ∀ vs, vo = some vs → vs.length = n2) (hN : TalN n0 M K n2 (idxK mask n0) inputs rec (supL M inputs rec vo K) A B f g) :
    Calls Try.prog 24 #[.agg #[.slice (some ⟨c, 0, none⟩) M n0, .slice (some ⟨c + 1, 0, none⟩) K n0, .slice (some ⟨c + 2, 0, none⟩) n0 n0, .slice (some ⟨s + 4, 0, none⟩) M M, .slice (some ⟨s + 5, 0, none⟩) n2 n2, .slice av nv cv, .slice (some ⟨s, 0, none⟩) K K, .slice (some ⟨s + 1, 0, none⟩) K K, .slice (some ⟨s + 2, 0, none⟩) K K, .slice (some ⟨s + 3, 0, none⟩) M M],
      .int .i64 ((B : Int) + 1), .int .i64 ((A : Int) + 1), .string v] w fun e w' =>
      (∃ a3 a4 a5 a6 a7 a8 m5 k5, e = .returned (.agg #[.slice (some ⟨c, 0, none⟩) M n0, .slice (some ⟨c + 1, 0, none⟩) K n0, .slice (some ⟨c + 2, 0, none⟩) n0 n0, .slice a3 M M, .slice a4 n2 n2, .slice a5 m5 k5, .slice a6 K K, .slice a7 K K, .slice a8 K K, .slice (some ⟨s + 3, 0, none⟩) M M]) ∧
        FieldsAt w' (some ⟨c, 0, none⟩) (some ⟨c + 1, 0, none⟩) (some ⟨c + 2, 0, none⟩) a3 a4 a5 a6 a7 a8 (some ⟨s + 3, 0, none⟩) m5 mask n0 M K n2 inputs rec (claimVo M n2 rec vo f g v) (presL M rec K) (eqL M rec K) (refL M rec K) (claimSup M K inputs rec vo f g v)) ∧
      ∀ C (x : World), C ≤ c → Below C x w → Below C x w' := by
  have HS := hide hS
  have HN := hide hN
  have HV := hide hV
  have HVL := hide hvl
  obtain ⟨hl0, hlM, hlK, hl2, hn2, hxl, hil, hrl, hsl, hfK, hcM, hA, hB, hiA, hiB, hs0⟩ := hN
  have hci := hS.ins.lt
  have hcr := hS.recs.lt
  have hcs := hS.sup.lt
  have hcx := hS.idx.lt
  have hap := hS.apart
  clear hn2 hxl hsl hiA hiB hs0 hS hV hvl
  have HI := hide hil
  have HRL := hide hrl
  clear hil hrl
  have C26 : Hid (∀ W, Below w.heap.size w W → Calls Try.prog 26 #[.agg #[.slice (some ⟨c, 0, none⟩) M n0, .slice (some ⟨c + 1, 0, none⟩) K n0, .slice (some ⟨c + 2, 0, none⟩) n0 n0, .slice (some ⟨s + 4, 0, none⟩) M M, .slice (some ⟨s + 5, 0, none⟩) n2 n2, .slice av nv cv, .slice (some ⟨s, 0, none⟩) K K, .slice (some ⟨s + 1, 0, none⟩) K K, .slice (some ⟨s + 2, 0, none⟩) K K, .slice (some ⟨s + 3, 0, none⟩) M M]] W fun e w' =>
      e = .returned (.pointer (some ⟨W.heap.size + 4, 0, none⟩)) ∧ MadeAt W w' W.heap.size (.slice (some ⟨c, 0, none⟩) M n0) (.slice (some ⟨c + 1, 0, none⟩) K n0) (.slice (some ⟨c + 2, 0, none⟩) n0 n0) (.slice av nv cv) (.slice (some ⟨s + 3, 0, none⟩) M M) K M n2 inputs rec (presL M rec K) (eqL M rec K) (refL M rec K)) := fun W hW =>
    make_any _ _ _ av _ _ _ _ ⟨s + 4, 0, none⟩ ⟨s + 5, 0, none⟩ M K n0 M n2 nv K M n0 n0 n0 M n2 cv K K K M inputs rec (presL M rec K) (eqL M rec K) (refL M rec K) W hlK ((HS.out.pres.keep hW).reads) ((HS.out.eq.keep hW).reads) ((HS.out.ref.keep hW).reads) (presL_length _ _ _) (eqL_length _ _ _) (refL_length _ _ _) ((HS.out.ins.keep hW).reads) ((HS.out.recs.keep hW).reads) HI.out HRL.out hlM hl2
  go_enter Try.func24, Try.ntmps24
  go_wp2_with fail
  refine (C26.out _ ?_).mono ?_
  · exact ((Below.refl _ _).alloc (Nat.le_refl _) _).alloc (by simp) _
  rintro e w1 ⟨rfl, hMk⟩
  have hlow1 : Below w.heap.size w w1 := (((Below.refl _ _).alloc (Nat.le_refl _) _).alloc (by simp) _).trans (hMk.low.mono (by simp; omega))
  have hE1 : w1.heap[w.heap.size + 1]? = some (.cells #[.slice none 0 0, .slice none 0 0, .slice none 0 0, .slice none 0 0, .slice none 0 0, .slice none 0 0, .slice none 0 0, .slice none 0 0, .slice none 0 0, .slice none 0 0] 31 (0, 0)) := by
    rw [hMk.low.block _ (by simp)]
    have := heap_alloc_new (w.alloc (.cells #[.slice (some ⟨c, 0, none⟩) M n0, .slice (some ⟨c + 1, 0, none⟩) K n0, .slice (some ⟨c + 2, 0, none⟩) n0 n0, .slice (some ⟨s + 4, 0, none⟩) M M, .slice (some ⟨s + 5, 0, none⟩) n2 n2, .slice av nv cv, .slice (some ⟨s, 0, none⟩) K K, .slice (some ⟨s + 1, 0, none⟩) K K, .slice (some ⟨s + 2, 0, none⟩) K K, .slice (some ⟨s + 3, 0, none⟩) M M] 31)) (.cells #[.slice none 0 0, .slice none 0 0, .slice none 0 0, .slice none 0 0, .slice none 0 0, .slice none 0 0, .slice none 0 0, .slice none 0 0, .slice none 0 0, .slice none 0 0] 31)
    rw [World.size_alloc] at this
    exact this
  obtain ⟨D, hD⟩ : ∃ D, D = w.heap.size + 1 + 1 := ⟨_, rfl⟩
  have HE1 := hide hE1
  clear hE1
  rw [World.size_alloc, World.size_alloc, ← hD] at hMk
  have hTal : TalW w1 (D + 4) (c + 2) (D + 2) (D + 3) (D + 1) (s + 3) n0 M K n2 (some ⟨c, 0, none⟩) (.slice (some ⟨c + 1, 0, none⟩) K n0) (.slice av nv cv) (idxK mask n0) inputs rec (presL M rec K) (eqL M rec K) (refL M rec K) (supL M inputs rec vo K) :=
    ⟨hMk.tally, HS.out.idx.keep hlow1, hMk.ins, hMk.recs, hMk.shown, HS.out.sup.keep hlow1, by omega⟩
  have hVF : VoidF w1 (.slice av nv cv) (D + 4) (c + 2) (D + 2) (D + 3) (D + 1) (s + 3) n2 vo := by
    rw [HV.out]
    cases hvo : vo with
    | none => exact .inl ⟨rfl, rfl⟩
    | some vs =>
      have ho := HS.out.void vs hvo
      have := ho.lt
      exact .inr ⟨s + 6, vs, rfl, rfl, HVL.out vs hvo, ho.keep hlow1, by omega⟩
  have hmin : ∀ p, av = some p → p.block = s + 6 ∧ s + 6 < w.heap.size := fun p hp => by
    have hh := HV.out
    cases hvo : vo with
    | none => rw [hvo] at hh; subst hp; cases hh
    | some vs =>
      rw [hvo] at hh
      have ho := (HS.out.void vs hvo).lt
      subst hp
      cases hh
      exact ⟨rfl, ho⟩
  have HC := hide (claim_both (D + 4) (c + 2) (D + 2) (D + 3) (D + 1) (s + 3) n0 M K n2 (some ⟨c, 0, none⟩) av nv cv (.slice (some ⟨c + 1, 0, none⟩) K n0) (idxK mask n0) inputs rec (presL M rec K) (eqL M rec K) (refL M rec K) (supL M inputs rec vo K) vo w1 A B f g v hTal hVF HN.out)
  have HMk := hide hMk
  have HD := hide hD
  have HMn := hide hmin
  have HL1 := hide hlow1
  have hsz1 : w1.heap.size = D + 5 := hMk.size
  clear hTal hVF hMk hmin hlow1
  rw [World.size_alloc, World.size_alloc, ← hD]
  clear hD
  go_wp2_with fail
  refine HC.out.mono ?_
  rintro e w2 ⟨rfl, av', nv', cv', hCB⟩
  have HCB := hide hCB
  have C28 := hide (take_any (D + 4) (D + 1) K M n2 ⟨D + 2, 0, none⟩ ⟨D + 3, 0, none⟩ (some ⟨c, 0, none⟩) (some ⟨c + 1, 0, none⟩) (some ⟨c + 2, 0, none⟩) av' (some ⟨s + 3, 0, none⟩) M K n0 nv' M n0 n0 n0 cv' M _ _ inputs rec (presL M rec K) (eqL M rec K) (refL M rec K) w2 hlK hlM hl2 hCB.tal.tal hCB.tal.shown (presL_length _ _ _) (eqL_length _ _ _) (refL_length _ _ _) hCB.tal.ins.reads hCB.tal.recs.reads HI.out HRL.out)
  clear hCB
  go_wp2_with fail
  refine C28.out.mono ?_
  rintro e w3 ⟨rfl, hTk⟩
  have hCB := HCB.out
  have hD := HD.out
  have hsz2 := hCB.size
  have hE3 : w3.heap[w.heap.size + 1]? = some (.cells #[.slice none 0 0, .slice none 0 0, .slice none 0 0, .slice none 0 0, .slice none 0 0, .slice none 0 0, .slice none 0 0, .slice none 0 0, .slice none 0 0, .slice none 0 0] 31 (0, 0)) := by
    rw [hTk.low.block _ (by omega), hCB.other _ (by omega) (by omega) (by omega) (fun p hp => by have := HMn.out p hp; omega)]
    exact HE1.out
  have hq : ∀ i, i < 10 → w3.cell? ⟨w.heap.size + 1, i, none⟩ = some (.slice none 0 0) := by
    intro i hi
    match i, hi with
    | 0, _ | 1, _ | 2, _ | 3, _ | 4, _ | 5, _ | 6, _ | 7, _ | 8, _ | 9, _ => simp [World.cell?, hE3]
  have hqf : ∀ i, w3.frozen? ⟨w.heap.size + 1, i, none⟩ = false := fun i => by simp [World.frozen?, hE3]
  have HE3 := hide hE3
  have HTk := hide hTk
  clear hE3 hTk hCB hD
  go_wp2
  refine finish_tally rfl rfl rfl HE3.out ?_
  intro W hWB ho hsW hbW
  have hTk := HTk.out
  have hCB := HCB.out
  have hD := HD.out
  have k2 : ∀ {α : Type} {fn : α → Value} {t b cp : Nat} {xs : List α}, Own fn t w2 b cp xs → b ≠ w.heap.size + 1 → Own fn t W b cp xs := fun h hb => h.of_block ((ho _ hb).trans (hTk.low.block _ h.lt))
  have k1 : ∀ {α : Type} {fn : α → Value} {t b cp : Nat} {xs : List α}, Own fn t w b cp xs → b ≠ s + 3 → b ≠ s + 6 → Own fn t W b cp xs := fun h hb hb6 => k2 ((h.keep HL1.out).of_block (hCB.other _ (by have := h.lt; omega) (by have := h.lt; omega) hb (fun p hp => by have := HMn.out p hp; omega))) (by have := h.lt; omega)
  refine ⟨⟨some ⟨w2.heap.size + 4, 0, none⟩, some ⟨w2.heap.size + 5, 0, none⟩, av', some ⟨w2.heap.size + 1, 0, none⟩, some ⟨w2.heap.size + 2, 0, none⟩, some ⟨w2.heap.size + 3, 0, none⟩, nv', cv', rfl, ?_⟩, ?_⟩
  · refine ⟨(k1 HS.out.corr (by omega) (by omega)).reads, (k1 HS.out.faul (by omega) (by omega)).reads, (k1 HS.out.idx (by omega) (by omega)).reads, (hTk.ins.of_block (ho _ (by omega))).reads, (hTk.recs.of_block (ho _ (by omega))).reads, ?_, (hTk.pres.of_block (ho _ (by omega))).reads, (hTk.eq.of_block (ho _ (by omega))).reads, (hTk.ref.of_block (ho _ (by omega))).reads, ?_⟩
    · rcases hCB.void with ⟨e, hvo⟩ | ⟨bv, vs, e, hvo, hl, hown, _⟩
      · cases e
        exact .inl ⟨rfl, hvo, rfl⟩
      · cases e
        have hne : bv ≠ w.heap.size + 1 := by
          intro hh
          have h1 := hTk.low.block bv hown.lt
          obtain ⟨cc, hcc, _⟩ := hown
          rw [hh] at h1 hcc
          rw [HE3.out, hcc] at h1
          cases h1
        exact .inr ⟨⟨bv, 0, none⟩, vs, rfl, hvo, rfl, hl, (k2 hown hne).reads⟩
    · have := hCB.tal.sup
      exact (k2 this (by omega)).reads
  · intro C x hC hx
    have h1 := hx.trans (HL1.out.mono (by omega))
    have h2 := hCB.low C x (by omega) (by omega) (by omega) (fun p hp => by have := HMn.out p hp; omega) h1
    exact hbW C x (by omega) (h2.trans (hTk.low.mono (by omega)))
end Go.Proofs.Qxb6604777a
