/-
  The walk of ZZList.
-/
import Derived.Test.Qxb6604780aLists
import Derived.OwnWalk
namespace Go.Proofs.Qxb6604780a
set_option linter.unusedSimpArgs false
set_option linter.unusedVariables false
open Go.RowKit

/-- The three rows that a law makes for list. -/
structure Three (w0 w : World) (kc kb hb N M : Nat) : Prop where
  below : Below w0.heap.size w0 w
  lc : w0.heap.size ≤ kc
  lk : w0.heap.size ≤ kb
  lh : w0.heap.size ≤ hb
  n1 : kc ≠ kb
  n2 : kc ≠ hb
  n3 : kb ≠ hb
  rc : w.heap[kc]? = some (.cells #[] 3 (0, 0))
  rk : Own Value.bool 4 w kb N (List.replicate N false)
  rh : Own Value.bool 4 w hb M (List.replicate M false)
theorem Three.keep {w0 w w' : World} {kc kb hb N M : Nat} (h : Three w0 w kc kb hb N M) (hb' : Below w.heap.size w w') : Three w0 w' kc kb hb N M :=
  { h with below := h.below.trans (hb'.mono h.below.size), rc := (hb'.block _ (lt_of_heap h.rc)).trans h.rc, rk := h.rk.keep hb', rh := h.rh.keep hb' }

/-- Where list begins. -/
def start (N M : Nat) (ofs : List Int) : LS := ⟨[], List.replicate N false, List.replicate M false, [], ofs⟩

theorem start_live {w0 w : World} {kc : Nat} (K : Blks) (ofs : List Int) (h : Three w0 w kc K.kb K.hb K.N K.M) (hB : K.B = w0.heap.size) (hcb : K.cb = w.heap.size) (htb : K.tb = w.heap.size + 1)
    (hn : K.sub = none → ofs = []) (hs : ∀ s o, K.sub = some (s, o) → w0.heap.size ≤ s ∧ w0.heap.size ≤ o ∧ s ≠ o ∧ s ≠ kc ∧ s ≠ K.kb ∧ s ≠ K.hb ∧ o ≠ kc ∧ o ≠ K.kb ∧ o ≠ K.hb ∧ w.heap[s]? = some (.cells #[.slice (some ⟨o, 0, none⟩) K.N K.N, .int .i64 K.sDC, .slice none 0 0] 64 (0, 0)) ∧ Own (Value.int .u8) 62 w o K.N ofs ∧ ofs.length = K.N) :
    Carry w0 K ((w.alloc (.cells #[.slice (some ⟨kc, 0, none⟩) 0 0] 22)).alloc (.cells #[.slice (some ⟨K.kb, 0, none⟩) K.N K.N] 30)) (start K.N K.M ofs) 0 := by
  have lk := h.rk.lt
  have lh := h.rh.lt
  have lc := lt_of_heap h.rc
  have k1 := h.lk
  have k2 := h.lh
  have k3 := h.lc
  have n1 := h.n1
  have n2 := h.n2
  have n3 := h.n3
  have kp : ∀ g, g < w.heap.size → ((w.alloc (.cells #[.slice (some ⟨kc, 0, none⟩) 0 0] 22)).alloc (.cells #[.slice (some ⟨K.kb, 0, none⟩) K.N K.N] 30)).heap[g]? = w.heap[g]? := fun g hg => by
    rw [Below.heap_alloc _ _ _ (by simp; omega), Below.heap_alloc _ _ _ hg]
  have hb2 : Below w0.heap.size w0 ((w.alloc (.cells #[.slice (some ⟨kc, 0, none⟩) 0 0] 22)).alloc (.cells #[.slice (some ⟨K.kb, 0, none⟩) K.N K.N] 30)) := (h.below.alloc h.below.size _).alloc (by have := h.below.size; simp; omega) _
  refine ⟨⟨.slice (some ⟨kc, 0, none⟩) 0 0, .slice none 0 0, ?_⟩, hb2, by simp [start], by simp [start], by simp [start]⟩
  refine { nodup := ?_, low := ?_, kt := h.rk.of_block (kp _ lk), ktl := by simp [start], kh := h.rh.of_block (kp _ lh), khl := by simp [start], kc := ?_, kx := ?_, kv := ?_, kvf := ?_, kn := fun e => ⟨hn e, rfl⟩, ks := ?_, kcv := World.ownsRow_nil _ _ _ _, kcf := fun g hg => by cases hg }
  · unfold Blks.fixed
    rcases hsub : K.sub with _ | ⟨s, o⟩
    · simp [subBlocks]; omega
    · obtain ⟨a1, a2, a3, a4, a5, a6, a7, a8, a9, a10, a11, a12⟩ := hs s o hsub
      have ls := lt_of_heap a10
      have lo := a11.lt
      simp [subBlocks]; omega
  · intro g hg
    unfold Blks.fixed at hg
    have := h.below.size
    rcases hsub : K.sub with _ | ⟨s, o⟩
    · rw [hsub] at hg
      simp [subBlocks] at hg
      omega
    · obtain ⟨a1, a2, _⟩ := hs s o hsub
      rw [hsub] at hg
      simp [subBlocks] at hg
      omega
  · rw [hcb, Below.heap_alloc _ _ _ (by simp)]
    exact heap_alloc_new _ _
  · have := heap_alloc_new (w.alloc (.cells #[.slice (some ⟨kc, 0, none⟩) 0 0] 22)) (.cells #[.slice (some ⟨K.kb, 0, none⟩) K.N K.N] 30)
    rw [htb]
    simpa using this
  · exact ⟨by simp [start], .inr ⟨kc, 0, #[], rfl, by omega, (kp _ lc).trans h.rc, by simp [start], by simp [maxLen], by simp, by simp [start]⟩⟩
  · intro g hg hm
    have e : kc = g := by simpa [Value.ownBlock] using hg
    subst e
    unfold Blks.fixed at hm
    rcases hsub : K.sub with _ | ⟨s, o⟩
    · rw [hsub] at hm
      simp [subBlocks] at hm
      omega
    · obtain ⟨a1, a2, a3, a4, a5, a6, a7, a8, a9, a10, a11, a12⟩ := hs s o hsub
      rw [hsub] at hm
      simp [subBlocks] at hm
      omega
  · intro s o hsub
    obtain ⟨a1, a2, a3, a4, a5, a6, a7, a8, a9, a10, a11, a12⟩ := hs s o hsub
    exact ⟨(kp _ (lt_of_heap a10)).trans a10, a11.of_block (kp _ a11.lt), a12⟩

/-- What ZZList hands back: with no subset two nils; else the presences and the nodes consulted. -/
def ZGot (w0 : World) (kb hb N M : Nat) (sub : Bool) (S : LS) (e : Ending) (w' : World) : Prop :=
  ∃ K v vc va, e = .returned (.tuple #[v, va, if sub = true then vc else .slice none 0 0]) ∧ LiveAt K w' S v vc ∧ Below w0.heap.size w0 w' ∧ K.B = w0.heap.size ∧ K.kb = kb ∧ K.hb = hb ∧ K.N = N ∧ K.M = M ∧
    ((sub = false ∧ va = .slice none 0 0) ∨ ∃ ab, sub = true ∧ va = .slice (some ⟨ab, 0, none⟩) N N ∧ Own (Value.int .u8) 5 w' ab N S.ofs)

set_option maxRecDepth 100000 in
set_option maxHeartbeats 2000000 in
theorem zlist_none (w0 w : World) (R : Nat) (vn vm : Value) (bd : Nat) (dc : List Int) (bp : Nat) (pts : List Int) (ak : Option Addr) (pks : List Int) (pf : Bool) (wk : Nat) (pick n count sDC : Int) (kc kb hb N M : Nat)
    (hG : ∀ K : Blks, K.B = w0.heap.size → K.N = N → K.M = M → Ground w0 K R vn vm bd dc bp pts ak pks pf) (h3 : Three w0 w kc kb hb N M) (hwk : wk < pts.length) (hpk : 0 < pks.length → 0 ≤ pick ∧ pick < pks.length) :
    Calls Try.prog 13 #[.pointer (some ⟨R, 0, none⟩), .int .i64 (wk : Int), .int .i64 pick, .int .i64 n, .int .i64 count, .slice none 0 0, .int .i64 sDC, .slice (some ⟨kc, 0, none⟩) 0 0, .slice (some ⟨kb, 0, none⟩) N N, .slice (some ⟨hb, 0, none⟩) M M] w fun e w' =>
      ZGot w0 kb hb N M false (listed dc pts pks (ak.isSome && decide (1 < (M : Int))) pf M n count wk pick.toNat (start N M [])).done e w' := by
  obtain ⟨K, hK⟩ : ∃ K : Blks, K = ⟨w0.heap.size, kb, hb, w.heap.size, w.heap.size + 1, N, M, none, 0⟩ := ⟨_, rfl⟩
  have hC := start_live (w0 := w0) (w := w) (kc := kc) K [] (by rw [hK]; exact h3) (by rw [hK]) (by rw [hK]) (by rw [hK]) (fun _ => rfl) (fun s o e => by rw [hK] at e; cases e)
  have C := list_any w0 w K R vn vm bd dc bp pts ak pks pf wk pick n count (start K.N K.M []) (some ⟨kc, 0, none⟩) 0 0 none K.M (hG K (by rw [hK]) (by rw [hK]) (by rw [hK])) (by rw [hK]; rfl) (by rw [hK]) hwk hpk (by rw [hK]) (by rw [hK]) h3.below hC
  have C30 := hide C
  have HK := hide hK
  have hnil : ∀ W, (binOp .neq 23 (.slice none 0 0) (.slice none 0 0)).run Try.prog W = .ok (.bool false) W := fun W => ne_nil_none Try.underlying23 0 0 W
  have e1 : K.kb = kb := by rw [hK]
  have e2 : K.hb = hb := by rw [hK]
  have e3 : K.N = N := by rw [hK]
  have e4 : K.M = M := by rw [hK]
  rw [e1, e2, e3, e4] at C30
  have E1 := hide e1
  have E2 := hide e2
  have E3 := hide e3
  have E4 := hide e4
  clear C hC h3 hG hwk hpk e1 e2 e3 e4 hK
  go_enter Try.func13, Try.ntmps13
  go_wp2_with fail
  refine C30.out.mono ?_
  rintro e w5 ⟨v, vc, rfl, hl, hb5⟩
  have HL := hide hl
  have HB := hide hb5
  clear hl hb5 C30
  go_wp2
  go_ret3
  refine ⟨K, v, vc, .slice none 0 0, rfl, HL.out, HB.out, ?_, E1.out, E2.out, E3.out, E4.out, .inl ⟨rfl, rfl⟩⟩
  rw [HK.out]

theorem LiveAt.ofs_len {K : Blks} {w : World} {S : LS} {v vc : Value} (h : LiveAt K w S v vc) {s o : Nat} (hs : K.sub = some (s, o)) : S.ofs.length = K.N := (h.ks s o hs).2.2

set_option maxRecDepth 100000 in
set_option maxHeartbeats 2000000 in
theorem zlist_some (w0 w : World) (R : Nat) (vn vm : Value) (bd : Nat) (dc : List Int) (bp : Nat) (pts : List Int) (ak : Option Addr) (pks : List Int) (pf : Bool) (wk : Nat) (pick n count sDC : Int) (kc kb hb N M : Nat) (p : Addr) (ofs : List Int) (c5 : Nat)
    (hG : ∀ K : Blks, K.B = w0.heap.size → K.N = N → K.M = M → Ground w0 K R vn vm bd dc bp pts ak pks pf) (h3 : Three w0 w kc kb hb N M) (hwk : wk < pts.length) (hpk : 0 < pks.length → 0 ≤ pick ∧ pick < pks.length)
    (hN : N ≤ 32768) (hol : ofs.length = N) (hr : Reads (Value.int .u8) w0 (some p) ofs) :
    Calls Try.prog 13 #[.pointer (some ⟨R, 0, none⟩), .int .i64 (wk : Int), .int .i64 pick, .int .i64 n, .int .i64 count, .slice (some p) N c5, .int .i64 sDC, .slice (some ⟨kc, 0, none⟩) 0 0, .slice (some ⟨kb, 0, none⟩) N N, .slice (some ⟨hb, 0, none⟩) M M] w fun e w' =>
      ZGot w0 kb hb N M true (listed dc pts pks (ak.isSome && decide (1 < sDC)) pf sDC n count wk pick.toNat (start N M ofs)).done e w' := by
  have hmk := run_make_row' (P := Try.prog) 61 62 (.int .u8 0) 1 Try.underlying61 info62 rfl .i64 .i64 N (by omega) (by omega)
  have hmk2 := run_make_row' (P := Try.prog) 23 5 (.int .u8 0) 1 Try.underlying23 info5 rfl .i64 .i64 N (by omega) (by omega)
  have hnil : ∀ W, (binOp .neq 23 (.slice (some p) N c5) (.slice none 0 0)).run Try.prog W = .ok (.bool true) W := fun W => ne_nil_some Try.underlying23 p N c5 W
  have HG := hide hG
  have H3 := hide h3
  have HR := hide (hr.keep h3.below)
  have HO := hide hol
  have HWK := hide hwk
  have HPK := hide hpk
  clear hG h3 hr hol hwk hpk
  go_enter Try.func13, Try.ntmps13
  go_wp2_with fail
  go_loopw [25] (fun i wr => ∃ k : Nat, k ≤ N ∧ i = .int .i64 k ∧ Own (Value.int .u8) 62 wr w.heap.size N (ofs.take k) ∧ Below w.heap.size w wr ∧ wr.heap.size = w.heap.size + 1) (fun i _ => N - (intOf i).toNat)
  case atStart => exact ⟨0, Nat.zero_le _, rfl, Own.made_none _ _ _ _, (Below.refl _ _).alloc (Nat.le_refl _) _, by simp⟩
  case round =>
    obtain ⟨k, hk, rfl, hown, hb1, hsz⟩ := hrel
    have HS := hide hsz
    have HB1 := hide hb1
    clear hsz
    by_cases hlt : k < N
    · have hkx : k < ofs.length := by rw [HO.out]; exact hlt
      obtain ⟨b, o, hp, hc⟩ := (HR.out.keep hb1) k hkx
      cases hp
      have hltI : (k : Int) < (N : Int) := by omega
      obtain ⟨v0, hv0⟩ := hown.there hlt
      have hfz := hown.frozen k
      have HOWN := hide hown
      clear hown hb1
      go_wp2_with fail
      have hpush := HOWN.out.push (by rw [List.length_take]; omega) ofs[k]
      have e1 : (ofs.take k).length = k := by rw [List.length_take]; omega
      rw [e1, ← List.take_succ_eq_append_getElem (by omega)] at hpush
      go_roundw
      case rel => exact ⟨k + 1, by omega, by go_num, hpush, HB1.out.setCell (by exact Nat.le_refl _) _, by simpa using HS.out⟩
      case measure => simp [intOf]; omega
    · obtain rfl : k = N := by omega
      rw [List.take_of_length_le (by rw [HO.out]; exact Nat.le_refl _)] at hown
      have HOWN := hide hown
      clear hown hb1
      obtain ⟨w3, hw3⟩ : ∃ w3, w3 = wr.alloc (.cells #[.slice (some ⟨w.heap.size, 0, none⟩) k k, .int .i64 sDC, .slice none 0 0] 64) := ⟨_, rfl⟩
      have hs3 : w3.heap.size = w.heap.size + 2 := by rw [hw3]; simp; rw [HS.out]
      have hb3 : Below w.heap.size w w3 := by rw [hw3]; exact HB1.out.alloc (by rw [HS.out]; omega) _
      obtain ⟨K, hK⟩ : ∃ K : Blks, K = ⟨w0.heap.size, kb, hb, w3.heap.size, w3.heap.size + 1, k, M, some (w.heap.size + 1, w.heap.size), sDC⟩ := ⟨_, rfl⟩
      have e1 : K.kb = kb := by rw [hK]
      have e2 : K.hb = hb := by rw [hK]
      have e3 : K.N = k := by rw [hK]
      have e4 : K.M = M := by rw [hK]
      have hsub : K.sub = some (w.heap.size + 1, w.heap.size) := by rw [hK]
      have h3' := H3.out.keep hb3
      have l1 := H3.out.rk.lt
      have l2 := H3.out.rh.lt
      have l3 := lt_of_heap H3.out.rc
      have l4 := H3.out.below.size
      have hC := start_live (w0 := w0) (w := w3) (kc := kc) K ofs (by rw [hK]; exact h3') (by rw [hK]) (by rw [hK]) (by rw [hK]) (fun e => by rw [hsub] at e; cases e) (fun s o e => by
        rw [hsub] at e
        cases e
        rw [e1, e2, e3]
        refine ⟨by omega, by omega, by omega, by omega, by omega, by omega, by omega, by omega, by omega, ?_, ?_, HO.out⟩
        · rw [hw3, ← HS.out, show K.sDC = sDC by rw [hK]]
          exact heap_alloc_new _ _
        · rw [hw3]
          exact HOWN.out.alloc _)
      have C := list_any w0 w3 K R vn vm bd dc bp pts ak pks pf wk pick n count (start K.N K.M ofs) (some ⟨kc, 0, none⟩) 0 0 (some ⟨w.heap.size + 1, 0, none⟩) sDC (HG.out K (by rw [hK]) (by rw [hK]) (by rw [hK])) (by rw [hsub]; rfl) (by rw [hK]) HWK.out HPK.out (by rw [hK]) (by rw [hK]) h3'.below hC
      rw [e1, e2, e3, e4] at C
      have C30 := hide C
      have E1 := hide e1
      have E2 := hide e2
      have E3 := hide e3
      have E4 := hide e4
      have EB : Hid (K.B = w0.heap.size) := by rw [hK]; exact rfl
      have HSUB := hide hsub
      have HW3 := hide hw3
      clear C hC h3' e1 e2 e3 e4 hsub hK hs3 hb3 hw3 HG H3 HR HWK HPK HOWN
      go_upto_region 9 with fail
      rw [← HW3.out, HS.out]
      go_wp2_with fail
      refine C30.out.mono ?_
      rintro e w5 ⟨v, vc, rfl, hl, hb5⟩
      obtain ⟨c0, c1, c2, _⟩ := hl.subCells HSUB.out
      rw [E3.out] at c0
      have HL := hide hl
      have HB := hide hb5
      obtain ⟨SS, hSS⟩ : ∃ SS, SS = (listed dc pts pks (ak.isSome && decide (1 < sDC)) pf sDC n count wk pick.toNat (start k M ofs)).done := ⟨_, rfl⟩
      rw [← hSS] at HL
      have HSSE := hide hSS
      have HSS : Hid (SS.ofs.length = k) := by rw [HL.out.ofs_len HSUB.out]; exact E3.out
      clear hl hb5 C30 hSS HO HS HB1 HW3
      go_wp2_with fail
      go_loopw [28] (fun i wr => ∃ j : Nat, j ≤ k ∧ i = .int .i64 j ∧ Own (Value.int .u8) 5 wr w5.heap.size k (SS.ofs.take j) ∧ Below w5.heap.size w5 wr) (fun i _ => k - (intOf i).toNat)
      case atStart => exact ⟨0, Nat.zero_le _, rfl, Own.made_none _ _ _ _, (Below.refl _ _).alloc (Nat.le_refl _) _⟩
      case round =>
        obtain ⟨j, hj, rfl, hown, hb6⟩ := hrel
        have d0 := (hb6.cell (p := ⟨w.heap.size + 1, 0, none⟩) (lt_of_cell c0)).trans c0
        have d2 := (hb6.cell (p := ⟨w.heap.size + 1, 2, none⟩) (lt_of_cell c2)).trans c2
        have HB6 := hide hb6
        by_cases hlt : j < k
        · have hltI : (j : Int) < (k : Int) := by omega
          have hjN : j < K.N := by rw [E3.out]; exact hlt
          have hjx : j < SS.ofs.length := by rw [HSS.out]; exact hlt
          have co := HL.out.ofCell HSUB.out hjN
          have co' := (hb6.cell (p := ⟨w.heap.size, j, none⟩) (lt_of_cell co)).trans co
          obtain ⟨y, hy⟩ : ∃ y, y = SS.ofs.getD j 0 := ⟨_, rfl⟩
          rw [← hy] at co'
          have HY : Hid (SS.ofs[j] = y) := by
            rw [hy, List.getD_eq_getElem?_getD, List.getElem?_eq_getElem hjx]
            exact rfl
          obtain ⟨v0, hv0⟩ := hown.there hlt
          have hfz := hown.frozen j
          have HOWN := hide hown
          clear hown hb6 co hy
          go_wp2_with fail
          have hpush := HOWN.out.push (by rw [List.length_take]; omega) SS.ofs[j]
          have e1 : (SS.ofs.take j).length = j := by rw [List.length_take]; omega
          rw [e1, ← List.take_succ_eq_append_getElem (by omega), HY.out] at hpush
          go_roundw
          case rel => exact ⟨j + 1, by omega, by go_num, hpush, HB6.out.setCell (by exact Nat.le_refl _) _⟩
          case measure => simp [intOf]; omega
        · obtain rfl : j = k := by omega
          rw [List.take_of_length_le (by rw [HSS.out]; exact Nat.le_refl _)] at hown
          have HOWN := hide hown
          clear hown hb6
          go_wp2_with fail
          go_quiet (fail)
          go_wp2_with fail
          go_ret3
          rw [← HSSE.out]
          exact ⟨K, v, vc, _, rfl, (HL.out.below (B' := 0) HB6.out).drewN nq, below_drewN (HB.out.trans (HB6.out.mono HB.out.size)) nq, EB.out, E1.out, E2.out, E3.out, E4.out, .inr ⟨w5.heap.size, rfl, rfl, HOWN.out⟩⟩
#print axioms zlist_none
end Go.Proofs.Qxb6604780a
