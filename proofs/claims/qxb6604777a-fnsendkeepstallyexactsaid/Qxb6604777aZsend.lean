/-
  The walk of ZZSend: send on a tally made of plain fields, the fields handed back.
-/
import Derived.Test.Qxb6604777aTally
import Derived.Test.Qxb6604777aSendBoth
namespace Go.Proofs.Qxb6604777a
set_option linter.unusedSimpArgs false
set_option linter.unusedVariables false
open Go.RowKit

set_option maxRecDepth 100000 in
set_option maxHeartbeats 4000000 in
theorem zzSend_any (c s n0 M K n2 : Nat) (mask : List Bool) (inputs rec : List ByteArray) (w : World) (A B f g : Nat) (v : ByteArray)
    (hS : StateAt w c s n0 M K n2 mask inputs rec none) (hN : TalN n0 M K n2 (idxK mask n0) inputs rec (supL M inputs rec none K) A B f g)
    (hin : ∀ o, o < M → nem (inputs.getD o emptyS) = true) (he : EmptyPast M rec f g) :
    Calls Try.prog 11 #[.agg #[.slice (some ⟨c, 0, none⟩) M n0, .slice (some ⟨c + 1, 0, none⟩) K n0, .slice (some ⟨c + 2, 0, none⟩) n0 n0, .slice (some ⟨s + 4, 0, none⟩) M M, .slice (some ⟨s + 5, 0, none⟩) n2 n2, .slice none 0 0, .slice (some ⟨s, 0, none⟩) K K, .slice (some ⟨s + 1, 0, none⟩) K K, .slice (some ⟨s + 2, 0, none⟩) K K, .slice (some ⟨s + 3, 0, none⟩) M M],
      .int .i64 ((A : Int) + 1), .int .i64 ((B : Int) + 1), .string v] w fun e w' =>
      (∃ a3 a4 a6 a7 a8 rs', e = .returned (.agg #[.slice (some ⟨c, 0, none⟩) M n0, .slice (some ⟨c + 1, 0, none⟩) K n0, .slice (some ⟨c + 2, 0, none⟩) n0 n0, .slice a3 M M, .slice a4 n2 n2, .slice none 0 0, .slice a6 K K, .slice a7 K K, .slice a8 K K, .slice (some ⟨s + 3, 0, none⟩) M M]) ∧
        rs'.length = K ∧ RefsOk M K (rec.set (f * M + g) v) rs' ∧ FieldsAt w' (some ⟨c, 0, none⟩) (some ⟨c + 1, 0, none⟩) (some ⟨c + 2, 0, none⟩) a3 a4 none a6 a7 a8 (some ⟨s + 3, 0, none⟩) 0 mask n0 M K n2 inputs (rec.set (f * M + g) v) none (presL M (rec.set (f * M + g) v) K) (eqL M (rec.set (f * M + g) v) K) rs' (supL M inputs (rec.set (f * M + g) v) none K)) ∧
      ∀ C (x : World), C ≤ c → Below C x w → Below C x w' := by
  have HS := hide hS
  have HN := hide hN
  have HIN := hide hin
  have HEP := hide he
  obtain ⟨hl0, hlM, hlK, hl2, hn2, hxl, hil, hrl, hsl, hfK, hcM, hA, hB, hiA, hiB, hs0⟩ := hN
  have hci := hS.ins.lt
  have hcr := hS.recs.lt
  have hcs := hS.sup.lt
  have hcx := hS.idx.lt
  have hap := hS.apart
  clear hn2 hxl hsl hiA hiB hs0 hS hin he
  have HI := hide hil
  have HRL := hide hrl
  clear hil hrl
  have C26 : Hid (∀ W, Below w.heap.size w W → Calls Try.prog 26 #[.agg #[.slice (some ⟨c, 0, none⟩) M n0, .slice (some ⟨c + 1, 0, none⟩) K n0, .slice (some ⟨c + 2, 0, none⟩) n0 n0, .slice (some ⟨s + 4, 0, none⟩) M M, .slice (some ⟨s + 5, 0, none⟩) n2 n2, .slice none 0 0, .slice (some ⟨s, 0, none⟩) K K, .slice (some ⟨s + 1, 0, none⟩) K K, .slice (some ⟨s + 2, 0, none⟩) K K, .slice (some ⟨s + 3, 0, none⟩) M M]] W fun e w' =>
      e = .returned (.pointer (some ⟨W.heap.size + 4, 0, none⟩)) ∧ MadeAt W w' W.heap.size (.slice (some ⟨c, 0, none⟩) M n0) (.slice (some ⟨c + 1, 0, none⟩) K n0) (.slice (some ⟨c + 2, 0, none⟩) n0 n0) (.slice none 0 0) (.slice (some ⟨s + 3, 0, none⟩) M M) K M n2 inputs rec (presL M rec K) (eqL M rec K) (refL M rec K)) := fun W hW =>
    make_any _ _ _ none _ _ _ _ ⟨s + 4, 0, none⟩ ⟨s + 5, 0, none⟩ M K n0 M n2 0 K M n0 n0 n0 M n2 0 K K K M inputs rec (presL M rec K) (eqL M rec K) (refL M rec K) W hlK ((HS.out.pres.keep hW).reads) ((HS.out.eq.keep hW).reads) ((HS.out.ref.keep hW).reads) (presL_length _ _ _) (eqL_length _ _ _) (refL_length _ _ _) ((HS.out.ins.keep hW).reads) ((HS.out.recs.keep hW).reads) HI.out HRL.out hlM hl2
  go_enter Try.func11, Try.ntmps11
  go_wp2_with fail
  refine (C26.out _ ?_).mono ?_
  · exact ((Below.refl _ _).alloc (Nat.le_refl _) _).alloc (by simp) _
  rintro e w1 ⟨rfl, hMk⟩
  have hlow1 : Below w.heap.size w w1 := (((Below.refl _ _).alloc (Nat.le_refl _) _).alloc (by simp) _).trans (hMk.low.mono (by simp; omega))
  have hE1 : w1.heap[w.heap.size + 1]? = some (.cells #[.slice none 0 0, .slice none 0 0, .slice none 0 0, .slice none 0 0, .slice none 0 0, .slice none 0 0, .slice none 0 0, .slice none 0 0, .slice none 0 0, .slice none 0 0] 31 (0, 0)) := by
    rw [hMk.low.block _ (by simp)]
    have := heap_alloc_new (w.alloc (.cells #[.slice (some ⟨c, 0, none⟩) M n0, .slice (some ⟨c + 1, 0, none⟩) K n0, .slice (some ⟨c + 2, 0, none⟩) n0 n0, .slice (some ⟨s + 4, 0, none⟩) M M, .slice (some ⟨s + 5, 0, none⟩) n2 n2, .slice none 0 0, .slice (some ⟨s, 0, none⟩) K K, .slice (some ⟨s + 1, 0, none⟩) K K, .slice (some ⟨s + 2, 0, none⟩) K K, .slice (some ⟨s + 3, 0, none⟩) M M] 31)) (.cells #[.slice none 0 0, .slice none 0 0, .slice none 0 0, .slice none 0 0, .slice none 0 0, .slice none 0 0, .slice none 0 0, .slice none 0 0, .slice none 0 0, .slice none 0 0] 31)
    rw [World.size_alloc] at this
    exact this
  obtain ⟨D, hD⟩ : ∃ D, D = w.heap.size + 1 + 1 := ⟨_, rfl⟩
  have HE1 := hide hE1
  clear hE1
  rw [World.size_alloc, World.size_alloc, ← hD] at hMk
  have hTal : TalW w1 (D + 4) (c + 2) (D + 2) (D + 3) (D + 1) (s + 3) n0 M K n2 (some ⟨c, 0, none⟩) (.slice (some ⟨c + 1, 0, none⟩) K n0) (.slice none 0 0) (idxK mask n0) inputs rec (presL M rec K) (eqL M rec K) (refL M rec K) (supL M inputs rec none K) :=
    ⟨hMk.tally, HS.out.idx.keep hlow1, hMk.ins, hMk.recs, hMk.shown, HS.out.sup.keep hlow1, by omega⟩
  have hAp : Apart3 (c + 2) (D + 2) (D + 3) (D + 1) := ⟨by omega, by omega, by omega, by omega, by omega⟩
  have HC := hide (send_both (D + 4) (c + 2) (D + 2) (D + 3) (D + 1) (s + 3) n0 M K n2 (some ⟨c, 0, none⟩) (.slice (some ⟨c + 1, 0, none⟩) K n0) (idxK mask n0) inputs rec w1 A B f g v hTal hAp HN.out HIN.out HEP.out)
  have HMk := hide hMk
  have HD := hide hD
  have HL1 := hide hlow1
  have hsz1 : w1.heap.size = D + 5 := hMk.size
  clear hTal hAp hMk hlow1
  rw [World.size_alloc, World.size_alloc, ← hD]
  clear hD
  go_wp2_with fail
  refine HC.out.mono ?_
  rintro e w2 ⟨rfl, rs', hrsl, hrok, hCB⟩
  have HCB := hide hCB
  have C28 := hide (take_any (D + 4) (D + 1) K M n2 ⟨D + 2, 0, none⟩ ⟨D + 3, 0, none⟩ (some ⟨c, 0, none⟩) (some ⟨c + 1, 0, none⟩) (some ⟨c + 2, 0, none⟩) none (some ⟨s + 3, 0, none⟩) M K n0 0 M n0 n0 n0 0 M _ _ inputs (rec.set (f * M + g) v) (presL M (rec.set (f * M + g) v) K) (eqL M (rec.set (f * M + g) v) K) rs' w2 hlK hlM hl2 hCB.tal.tal hCB.tal.shown (presL_length _ _ _) (eqL_length _ _ _) hrsl hCB.tal.ins.reads hCB.tal.recs.reads HI.out (by rw [List.length_set]; exact HRL.out))
  have HRSL := hide hrsl
  have HROK := hide hrok
  clear hCB hrsl hrok
  go_wp2_with fail
  refine C28.out.mono ?_
  rintro e w3 ⟨rfl, hTk⟩
  have hCB := HCB.out
  have hD := HD.out
  have hsz2 := hCB.size
  have hE3 : w3.heap[w.heap.size + 1]? = some (.cells #[.slice none 0 0, .slice none 0 0, .slice none 0 0, .slice none 0 0, .slice none 0 0, .slice none 0 0, .slice none 0 0, .slice none 0 0, .slice none 0 0, .slice none 0 0] 31 (0, 0)) := by
    rw [hTk.low.block _ (by omega), hCB.other _ (by omega) (by omega) (by omega) (by omega)]
    exact HE1.out
  have hq : ∀ i, i < 10 → w3.cell? ⟨w.heap.size + 1, i, none⟩ = some (.slice none 0 0) := by
    intro i hi
    match i, hi with
    | 0, _ | 1, _ | 2, _ | 3, _ | 4, _ | 5, _ | 6, _ | 7, _ | 8, _ | 9, _ => simp [World.cell?, hE3]
  have hqf : ∀ i, w3.frozen? ⟨w.heap.size + 1, i, none⟩ = false := fun i => by simp [World.frozen?, hE3]
  have HE3 := hide hE3
  have HTk := hide hTk
  clear hE3 hTk hCB hD
  go_wp2
  refine finish_tally rfl rfl rfl HE3.out ?_
  intro W hWB ho hsW hbW
  have hTk := HTk.out
  have hCB := HCB.out
  have hD := HD.out
  have k2 : ∀ {α : Type} {fn : α → Value} {t b cp : Nat} {xs : List α}, Own fn t w2 b cp xs → b ≠ w.heap.size + 1 → Own fn t W b cp xs := fun h hb => h.of_block ((ho _ hb).trans (hTk.low.block _ h.lt))
  have k1 : ∀ {α : Type} {fn : α → Value} {t b cp : Nat} {xs : List α}, Own fn t w b cp xs → b ≠ s + 3 → Own fn t W b cp xs := fun h hb => k2 ((h.keep HL1.out).of_block (hCB.other _ (by have := h.lt; omega) (by have := h.lt; omega) (by have := h.lt; omega) hb)) (by have := h.lt; omega)
  refine ⟨⟨some ⟨w2.heap.size + 4, 0, none⟩, some ⟨w2.heap.size + 5, 0, none⟩, some ⟨w2.heap.size + 1, 0, none⟩, some ⟨w2.heap.size + 2, 0, none⟩, some ⟨w2.heap.size + 3, 0, none⟩, rs', rfl, HRSL.out, HROK.out, ?_⟩, ?_⟩
  · refine ⟨(k1 HS.out.corr (by omega)).reads, (k1 HS.out.faul (by omega)).reads, (k1 HS.out.idx (by omega)).reads, (hTk.ins.of_block (ho _ (by omega))).reads, (hTk.recs.of_block (ho _ (by omega))).reads, .inl ⟨rfl, rfl, rfl⟩, (hTk.pres.of_block (ho _ (by omega))).reads, (hTk.eq.of_block (ho _ (by omega))).reads, (hTk.ref.of_block (ho _ (by omega))).reads, ?_⟩
    have := hCB.tal.sup
    exact (k2 this (by omega)).reads
  · intro C x hC hx
    have h1 := hx.trans (HL1.out.mono (by omega))
    have h2 := hCB.low C x (by omega) (by omega) (by omega) (by omega) h1
    exact hbW C x (by omega) (h2.trans (hTk.low.mono (by omega)))
end Go.Proofs.Qxb6604777a
