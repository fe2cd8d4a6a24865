/-
  The walk of FnListMatchesPreferenceModel.
-/
import Derived.Test.Qxb6604780aSame3
import Derived.Test.Qxb6604780aMlist
import Derived.Test.Qxb6604780aLdom
import Derived.Test.Qxb6604780aDomains
namespace Go.Proofs.Qxb6604780a
set_option linter.unusedSimpArgs false
set_option linter.unusedVariables false
open Go.RowKit

theorem loopB_mem {T : Type} (f : T → List Int) (stop : T → Bool) (act : Int → T → T) (hact : ∀ y t x, x ∈ f (act y t) → x ∈ f t ∨ x = y) : ∀ (R : List Int) (t : T) (x : Int), x ∈ f (loopB stop act R t) → x ∈ f t ∨ x ∈ R
  | [], t, x, h => .inl h
  | y :: R, t, x, h => by
    rw [loopB] at h
    split at h
    · exact .inl h
    · rcases loopB_mem f stop act hact R _ x h with h | h
      · rcases hact y t x h with h | h
        · exact .inl h
        · exact .inr (by rw [h]; exact List.mem_cons_self ..)
      · exact .inr (List.mem_cons_of_mem _ h)
theorem act1_mem (y : Int) (c : List Int) (x : Int) (h : x ∈ act1 y c) : x ∈ c ∨ x = y := by
  unfold act1 at h
  rcases List.mem_append.1 h with h | h
  · exact .inl h
  · exact .inr (List.mem_singleton.1 h)
theorem act3_mem (y : Int) (c : List Int) (x : Int) (h : x ∈ act3 y c) : x ∈ c ∨ x = y := by
  unfold act3 at h
  split at h
  · exact .inl h
  · exact act1_mem y c x h
theorem modelL_mem {dc pts pks ofs : List Int} {up pf : Bool} {D n count : Int} {wk pick : Nat} {x : Int} (h : x ∈ modelL dc pts pks ofs up pf D n count wk pick) : x ∈ pts ∨ x ∈ pks := by
  unfold modelL at h
  have m1 : ∀ y, y ∈ (if pf = true ∧ up = true ∧ D < n then loopB (stop1 D) act1 (repsFrom (dcAt dc) (okOf ofs) [] (rot pts wk)) [] else []) → y ∈ pts := by
    intro y hy
    split at hy
    · rcases loopB_mem id (stop1 D) act1 act1_mem _ _ y hy with h | h
      · cases h
      · exact rot_mem (repsFrom_mem _ _ _ _ _ h)
    · cases hy
  rcases loopB_mem id (stop1 count) act3 act3_mem _ _ x h with h | h
  · have h' : x ∈ (if up = true then (loopB (stop2 n D) act2 (repsFrom (dcAt dc) (okOf ofs) [] (rot pks pick)) (if pf = true ∧ up = true ∧ D < n then loopB (stop1 D) act1 (repsFrom (dcAt dc) (okOf ofs) [] (rot pts wk)) [] else [], 0)).1 else if pf = true ∧ up = true ∧ D < n then loopB (stop1 D) act1 (repsFrom (dcAt dc) (okOf ofs) [] (rot pts wk)) [] else []) := h
    by_cases hu : up = true
    · rw [if_pos hu] at h'
      rcases loopB_mem (fun t : List Int × Nat => t.1) (stop2 n D) act2 (fun y t z hz => act3_mem y t.1 z hz) _ _ x h' with h | h
      · exact .inl (m1 x h)
      · exact .inr (rot_mem (repsFrom_mem _ _ _ _ _ h))
    · rw [if_neg hu] at h'
      exact .inl (m1 x h')
  · exact .inl (rot_mem (repsFrom_mem _ _ _ _ _ h))

theorem loopB_len {T : Type} (f : T → List Int) (stop : T → Bool) (act : Int → T → T) (hact : ∀ y t, (f (act y t)).length ≤ (f t).length + 1) : ∀ (R : List Int) (t : T), (f (loopB stop act R t)).length ≤ (f t).length + R.length
  | [], t => by rw [loopB]; exact Nat.le_add_right _ _
  | y :: R, t => by
    rw [loopB]
    split
    · exact Nat.le_add_right _ _
    · have h1 := loopB_len f stop act hact R (act y t)
      have h2 := hact y t
      rw [List.length_cons]
      omega
theorem act1_len (y : Int) (c : List Int) : (act1 y c).length ≤ c.length + 1 := by simp [act1]
theorem act3_len (y : Int) (c : List Int) : (act3 y c).length ≤ c.length + 1 := by
  unfold act3
  split
  · omega
  · simp
theorem modelL_len {dc pts pks ofs : List Int} {up pf : Bool} {D n count : Int} {wk pick : Nat} : (modelL dc pts pks ofs up pf D n count wk pick).length ≤ pts.length + pks.length + pts.length := by
  have rl : ∀ (xs : List Int) (k : Nat), (rot xs k).length = xs.length := by
    intro xs k
    unfold rot
    rw [List.length_append, List.length_drop, List.length_take]
    omega
  have m1 : (if pf = true ∧ up = true ∧ D < n then loopB (stop1 D) act1 (repsFrom (dcAt dc) (okOf ofs) [] (rot pts wk)) [] else []).length ≤ pts.length := by
    split
    · have h1 := loopB_len id (stop1 D) act1 act1_len (repsFrom (dcAt dc) (okOf ofs) [] (rot pts wk)) []
      have h2 := repsFrom_le (dcAt dc) (okOf ofs) (rot pts wk) []
      rw [rl] at h2
      simp only [id, List.length_nil] at h1
      omega
    · simp
  unfold modelL
  have h3 := loopB_len id (stop1 count) act3 act3_len (repsFrom id (okOf ofs) [] (rot pts wk)) (if up = true then (loopB (stop2 n D) act2 (repsFrom (dcAt dc) (okOf ofs) [] (rot pks pick)) (if pf = true ∧ up = true ∧ D < n then loopB (stop1 D) act1 (repsFrom (dcAt dc) (okOf ofs) [] (rot pts wk)) [] else [], 0)).1 else if pf = true ∧ up = true ∧ D < n then loopB (stop1 D) act1 (repsFrom (dcAt dc) (okOf ofs) [] (rot pts wk)) [] else [])
  have h4 := repsFrom_le id (okOf ofs) (rot pts wk) []
  rw [rl] at h4
  have h5 := loopB_len (fun t : List Int × Nat => t.1) (stop2 n D) act2 (fun y t => act3_len y t.1) (repsFrom (dcAt dc) (okOf ofs) [] (rot pks pick)) (if pf = true ∧ up = true ∧ D < n then loopB (stop1 D) act1 (repsFrom (dcAt dc) (okOf ofs) [] (rot pts wk)) [] else [], 0)
  have h6 := repsFrom_le (dcAt dc) (okOf ofs) (rot pks pick) []
  rw [rl] at h6
  simp only [id] at h3
  by_cases hu : up = true
  · rw [if_pos hu] at h3 ⊢
    simp only at h5
    omega
  · rw [if_neg hu] at h3 ⊢
    omega

/-- What list has left, told by the model. -/
structure Left (N M : Nat) (ofs X : List Int) (S : LS) : Prop where
  chosen : S.chosen = X
  taken : S.taken = List.replicate N false
  held : S.held = List.replicate M false
  cons : S.cons = X.filter fun x => ofs.getD x.toNat 0 == 2
  ofl : S.ofs.length = ofs.length
  ofs : ∀ i : Nat, S.ofs.getD i 0 = if ofs.getD i 0 = 2 ∧ (i : Int) ∈ X then 0 else ofs.getD i 0
theorem left_of {N M : Nat} {ofs dc pts pks : List Int} {up pf : Bool} {D n count : Int} {wk pick : Nat} (hp : Walks N M dc (rot pts wk)) (hk : Walks N M dc (rot pks pick)) (hw : ∀ x ∈ (listed dc pts pks up pf D n count wk pick (start N M ofs)).chosen, 0 ≤ x) :
    Left N M ofs (modelL dc pts pks ofs up pf D n count wk pick) (listed dc pts pks up pf D n count wk pick (start N M ofs)).done := by
  obtain ⟨hI, hc⟩ := listed_inv N M ofs dc pts pks up pf D n count wk pick (start N M ofs) (start_inv N M ofs) rfl hp hk
  refine ⟨hc, ?_, ?_, ?_, hI.ofl, ?_⟩
  · show untake _ _ = _
    rw [hI.taken]
    exact untake_flags N _ hw
  · show (listed dc pts pks up pf D n count wk pick (start N M ofs)).held = _
    rw [hI.held, flagsOf_nil]
  · rw [← hc]; exact hI.cons
  · rw [← hc]; exact hI.ofs
theorem ZGot.rows {w0 w' : World} {kb hb N M : Nat} {sub : Bool} {S : LS} {e : Ending} (h : ZGot w0 kb hb N M sub S e w') : ∃ a cap vc va, e = .returned (.tuple #[.slice a S.chosen.length cap, va, if sub = true then vc else .slice none 0 0]) ∧ Reads (Value.int .i64) w' a S.chosen ∧ Below w0.heap.size w0 w' ∧ S.chosen.length ≤ 9223372036854775807 ∧ Own Value.bool 4 w' kb N S.taken ∧ Own Value.bool 4 w' hb M S.held ∧
    (∃ a' cap', vc = .slice a' S.cons.length cap' ∧ Reads (Value.int .i64) w' a' S.cons ∧ S.cons.length ≤ 9223372036854775807) ∧ ((sub = false ∧ va = .slice none 0 0) ∨ ∃ ab, sub = true ∧ va = .slice (some ⟨ab, 0, none⟩) N N ∧ Own (Value.int .u8) 5 w' ab N S.ofs) := by
  obtain ⟨K, v, vc, va, rfl, hl, hb', hB, e1, e2, e3, e4, hsub⟩ := h
  have row : ∀ {u : Value} {xs : List Int}, w'.ownsRow K.B 3 1 u xs.length (xs.map (Value.int .i64)) → ∃ a cap, u = .slice a xs.length cap ∧ Reads (Value.int .i64) w' a xs ∧ xs.length ≤ 9223372036854775807 := by
    intro u xs h
    rcases h.2 with ⟨hv, hn⟩ | ⟨g, cap, cur, hv, _, _, hnc, hcm, _⟩
    · exact ⟨none, 0, by rw [hv, hn], fun i hi => by omega, by omega⟩
    · have h2 := h
      rw [hv] at h2
      exact ⟨some ⟨g, 0, none⟩, cap, hv, (Own.of_ownsRow h2).1.reads, by simp [maxLen] at hcm; omega⟩
  obtain ⟨a, cap, ev, hr, hm⟩ := row hl.kv
  obtain ⟨a', cap', ev', hr', hm'⟩ := row hl.kcv
  have kt := hl.kt
  have kh := hl.kh
  rw [e1, e3] at kt
  rw [e2, e4] at kh
  exact ⟨a, cap, vc, va, by rw [ev], hr, hb', hm, kt, kh, ⟨a', cap', ev', hr', hm'⟩, hsub⟩

set_option maxRecDepth 100000 in
set_option maxHeartbeats 1000000 in
theorem listm_walk (a0 a2 a3 a5 : Option Addr) (n0 c0 n2 c2 n3 c3 n5 c5 : Nat) (dc pts pks ofs : List Int) (m sDC walk pick n count : Int) (pf : Bool) (w : World)
    (h0 : RowIn (Value.int .i64) w a0 n0 dc) (h2 : RowIn (Value.int .i64) w a2 n2 pts) (h3 : RowIn (Value.int .i64) w a3 n3 pks) (h5 : RowIn (Value.int .u8) w a5 n5 ofs) :
    Calls Try.prog 3 #[.slice a0 n0 c0, .int .i64 m, .slice a2 n2 c2, .slice a3 n3 c3, .bool pf, .slice a5 n5 c5, .int .i64 sDC, .int .i64 walk, .int .i64 pick, .int .i64 n, .int .i64 count] w fun e w' => e = .returned (.bool true) ∧ Below w.heap.size w w' := by
  have C18 := hide (bytes8_any a0 a2 a3 a5 n0 c0 n2 c2 n3 c3 n5 c5 pf m sDC walk pick n count w)
  have R0 := hide h0
  have R2 := hide h2
  have R3 := hide h3
  have R5 := hide h5
  clear h0 h2 h3 h5
  by_cases hall : n0 ≤ 32768 ∧ n2 ≤ 32768 ∧ n3 ≤ 32768 ∧ n5 ≤ 32768 ∧ 1 ≤ m ∧ m ≤ 65536
  case neg =>
    go_enter Try.func3, Try.ntmps3
    go_wp2_with fail
    refine C18.out.mono ?_
    rintro e w' ⟨⟨b, rfl⟩, hw'⟩
    obtain rfl := hw'.symm
    clear C18
    cases b
    · go_wp2
      go_ret
      exact ⟨rfl, Below.refl _ _⟩
    · go_wp2_with fail
      all_goals first | (go_ret; exact ⟨rfl, Below.refl _ _⟩) | (exfalso; omega)
  obtain ⟨l0, l2, l3, l5, m1, m2⟩ := hall
  obtain ⟨M, rfl⟩ : ∃ M : Nat, m = (M : Int) := ⟨m.toNat, by omega⟩
  have C9 := hide (listDomain_any a0 a2 a3 a5 n0 c0 n2 c2 n3 c3 n5 c5 dc pts pks M walk pick n count w l0 l2 l3 l5 R0.out.len R2.out.len R3.out.len R0.out.reads R2.out.reads R3.out.reads)
  have t0 : decide ((32768 : Int) < (n0 : Int)) = false := by simp; omega
  have t2 : decide ((32768 : Int) < (n2 : Int)) = false := by simp; omega
  have t3 : decide ((32768 : Int) < (n3 : Int)) = false := by simp; omega
  have t5 : decide ((32768 : Int) < (n5 : Int)) = false := by simp; omega
  have t6 : decide ((M : Int) < 1) = false := by simp; omega
  have t7 : decide ((65536 : Int) < (M : Int)) = false := by simp; omega
  go_enter Try.func3, Try.ntmps3
  go_wp2_with fail
  refine C18.out.mono ?_
  rintro e w' ⟨⟨b, rfl⟩, hw'⟩
  obtain rfl := hw'.symm
  clear C18
  cases b
  · go_wp2
    go_ret
    exact ⟨rfl, Below.refl _ _⟩
  go_wp2_with fail
  refine C9.out.mono ?_
  rintro e w' ⟨⟨b, rfl, hD⟩, hw'⟩
  obtain rfl := hw'.symm
  clear C9
  cases b
  · clear hD
    go_wp2
    go_ret
    exact ⟨rfl, Below.refl _ _⟩
  have HD := hide (hD rfl)
  clear hD
  -- copies
  obtain ⟨p0, rfl⟩ : ∃ p, a0 = some p := by
    cases a0 with
    | some p => exact ⟨p, rfl⟩
    | none =>
      exfalso
      have e0 := R0.out.nil rfl
      have h1 := HD.out.ptsIn 0 (by have := HD.out.k0; have := HD.out.k1; omega)
      rw [R0.out.len] at h1
      omega
  have C10 := hide (copyInts_some p0 c0 n0 dc w (by omega) R0.out.len R0.out.reads)
  go_wp2_with fail
  refine C10.out.mono ?_
  rintro e w1 ⟨rfl, ho0, hb1, -⟩
  have O0 := hide ho0
  have B1 := hide hb1
  clear ho0 hb1 C10 t0 t2 t3 t5 t6 t7
  have C10 := hide (copyInts_any a2 c2 n2 pts w1 (by omega) (R2.out.keep B1.out))
  go_wp2_with fail
  refine C10.out.mono ?_
  rintro e w2 ⟨a2', rfl, -, hr2, hb2⟩
  have R2' := hide hr2
  have B2 := hide (B1.out.trans (hb2.mono B1.out.size))
  have O0' := hide (O0.out.keep hb2)
  clear hr2 hb2 C10 O0
  have C10 := hide (copyInts_any a3 c3 n3 pks w2 (by omega) (R3.out.keep B2.out))
  go_wp2_with fail
  refine C10.out.mono ?_
  rintro e w3 ⟨a3', rfl, ha3, hr3, hb3⟩
  have R3' := hide hr3
  have R2'' := hide (R2'.out.keep hb3)
  have B3 := hide (B2.out.trans (hb3.mono B2.out.size))
  have O0'' := hide (O0'.out.keep hb3)
  clear hr3 hb3 C10 O0' R2' ha3
  have C11 := hide (copyU8_any a5 c5 n5 ofs w3 (by omega) (R5.out.keep B3.out))
  go_wp2_with fail
  refine C11.out.mono ?_
  rintro e w4 ⟨a5', rfl, ha5, hr5, hb4⟩
  have A5 := hide ha5
  have R5' := hide hr5
  have R3'' := hide (R3'.out.keep hb4)
  have R2' := hide (R2''.out.keep hb4)
  have B4 := hide (B3.out.trans (hb4.mono B3.out.size))
  have O0' := hide (O0''.out.keep hb4)
  clear hr5 hb4 C11 O0'' R2'' R3' ha5
  have C12 := hide (makeRing_any (some ⟨w.heap.size, 0, none⟩) a2' a3' n0 n0 n2 n2 n3 n3 (M : Int) pf pts pks w4 l0 l2 l3 R2'.out.len R3''.out.len R3''.out.nil R2'.out.reads R3''.out.reads)
  go_wp2_with fail
  refine C12.out.mono ?_
  rintro e w5 ⟨⟨R, vn, vm, bp, ak, rfl, -, hak, hring⟩, hb5⟩
  have HAK : Hid (ak.isSome = a3'.isSome) := by
    cases ak with
    | none => rw [hak.1 rfl]; exact rfl
    | some p =>
      cases a3' with
      | none => exact absurd (hak.2 rfl) (by simp)
      | some q => exact rfl
  clear hak
  have RR2 := hide (R2'.out.keep hb5)
  have RR3 := hide (R3''.out.keep hb5)
  have RG := hide hring
  have R5'' := hide (R5'.out.keep hb5)
  have B5 := hide (B4.out.trans (hb5.mono B4.out.size))
  have O0'' := hide (O0'.out.keep hb5)
  have L2 := hide R2.out.len
  have L3 := hide R3.out.len
  clear hring hb5 C12 O0' R5' R2' R3'' R2 R3 R5 B1 B2 B3 B4
  obtain ⟨wk, rfl⟩ : ∃ wk : Nat, walk = (wk : Int) := ⟨walk.toNat, by have := HD.out.k0; omega⟩
  have HWK : Hid (wk < pts.length) := by have := HD.out.k1; exact (by omega : wk < pts.length)
  have HGR : Hid (∀ (W : World), Below w5.heap.size w5 W → ∀ K : Blks, K.B = W.heap.size → K.N = n0 → K.M = M → Ground W K R vn vm w.heap.size dc bp pts ak pks pf) := by
    intro W hW K e1 e2 e3
    have dl := R0.out.len
    refine { base := e1, ring := ?_, dcs := (O0''.out.keep hW).reads, dl := by rw [e2]; exact dl, dcIn := by rw [e3]; exact HD.out.dcs, ptsIn := by rw [e2, ← dl]; exact HD.out.ptsIn, pksIn := by rw [e2, ← dl]; exact HD.out.pksIn, nN := by omega, nP := ?_, nK := ?_, nM := by omega, m0 := by omega }
    · rw [e2, e3]; exact RG.out.keep hW
    · rw [L2.out]; exact l2
    · rw [L3.out]; exact l3
  have hmk0 : ∀ w : World, (Instr.makeSlice 22 (.int .i64 0) (.int .i64 0)).run Try.prog w = .ok (.slice (some ⟨w.heap.size, 0, none⟩) 0 0) (w.alloc (.cells (madeCells #[.int .i64 0] 0) 3)) := run_make_row' (P := Try.prog) 22 3 (.int .i64 0) 8 Try.underlying22 info3 rfl .i64 .i64 0 (by omega) (by omega)
  have hmkN := run_make_row' (P := Try.prog) 30 4 (.bool false) 1 Try.underlying30 info4 rfl .i64 .i64 n0 (by omega) (by omega)
  have hmkM := run_make_row' (P := Try.prog) 30 4 (.bool false) 1 Try.underlying30 info4 rfl .i64 .i64 M (by omega) (by omega)
  have H5N : Hid (a5' ≠ none → n5 = n0) := fun h => by
    have := HD.out.ofl (fun e => h (A5.out.2 e))
    rw [this, R0.out.len]
  obtain ⟨X, hX⟩ : ∃ X, X = modelL dc pts pks ofs (ak.isSome && decide (1 < spanOf a5' sDC M)) pf (spanOf a5' sDC M) n count wk pick.toNat := ⟨_, rfl⟩
  obtain ⟨S, hS⟩ : ∃ S, S = (listed dc pts pks (ak.isSome && decide (1 < spanOf a5' sDC M)) pf (spanOf a5' sDC M) n count wk pick.toNat (start n0 M ofs)).done := ⟨_, rfl⟩
  have hW1 := walks_of (N := n0) (M := M) (dc := dc) (xs := pts) (by rw [← R0.out.len]; exact HD.out.ptsIn) HD.out.dcs R0.out.len wk
  have hW2 := walks_of (N := n0) (M := M) (dc := dc) (xs := pks) (by rw [← R0.out.len]; exact HD.out.pksIn) HD.out.dcs R0.out.len pick.toNat
  have HX : Hid (∀ x ∈ X, ∃ k : Nat, x = (k : Int) ∧ k < n0) := by
    intro x hx
    rw [hX] at hx
    rcases modelL_mem hx with h | h
    · exact AllIn.natM (by rw [← R0.out.len]; exact HD.out.ptsIn) h
    · exact AllIn.natM (by rw [← R0.out.len]; exact HD.out.pksIn) h
  have HXB : Hid (X.length ≤ 98304) := by
    have h1 := modelL_len (dc := dc) (pts := pts) (pks := pks) (ofs := ofs) (up := ak.isSome && decide (1 < spanOf a5' sDC M)) (pf := pf) (D := spanOf a5' sDC M) (n := n) (count := count) (wk := wk) (pick := pick.toNat)
    rw [← hX, L2.out, L3.out] at h1
    exact (by omega : X.length ≤ 98304)
  have HLEFT : Hid (Left n0 M ofs X S) := by
    rw [hX, hS]
    refine left_of hW1 hW2 fun x hx => ?_
    rw [(listed_inv n0 M ofs dc pts pks _ pf _ n count wk pick.toNat (start n0 M ofs) (start_inv n0 M ofs) rfl hW1 hW2).2] at hx
    obtain ⟨k, rfl, _⟩ := HX.out x (by rw [hX]; exact hx)
    omega
  obtain ⟨W3, hW3⟩ : ∃ W3, W3 = ((w5.alloc (.cells (madeCells #[.bool false] n0) 4)).alloc (.cells (madeCells #[.bool false] M) 4)).alloc (.cells (madeCells #[.int .i64 0] 0) 3) := ⟨_, rfl⟩
  have hT : Three w5 W3 (w5.heap.size + 1 + 1) w5.heap.size (w5.heap.size + 1) n0 M := by
    rw [hW3]
    exact three_of (((((Below.refl _ _).alloc (Nat.le_refl _) _).alloc (by simp) _).alloc (by simp; omega) _)) (by omega) (by omega) (by omega) (by omega) (by omega) (by omega) (alloc3_2 _ _ _ _) (alloc3_0 _ _ _ _) (alloc3_1 _ _ _ _)
  have C13 := hide (zlist_any w5 W3 R vn vm w.heap.size dc bp pts ak pks pf wk pick n count sDC (w5.heap.size + 1 + 1) w5.heap.size (w5.heap.size + 1) n0 M a5' n5 ofs (HGR.out w5 (Below.refl _ _)) HWK.out HD.out.pk l0 R5''.out H5N.out hT)
  rw [← hS] at C13
  have C14 : Hid (∀ W, Below w5.heap.size w5 W → Calls Try.prog 14 #[.slice (some ⟨w.heap.size, 0, none⟩) n0 n0, .int .i64 (M : Int), .slice a2' n2 n2, .slice a3' n3 n3, .bool pf, .slice a5' n5 n5, .int .i64 sDC, .int .i64 (wk : Int), .int .i64 pick, .int .i64 n, .int .i64 count] W fun e w' => RowOut W w' e X) := by
    intro W hW
    have := modelList_any w.heap.size n0 M dc pts pks ofs a2' a3' a5' n2 n2 n3 n3 n5 n5 pf sDC pick n count (spanOf a5' sDC M) wk W (O0''.out.keep hW).reads R0.out.len HD.out.dcs (RR2.out.keep hW).reads RR2.out.len (by rw [← R0.out.len]; exact HD.out.ptsIn) (RR3.out.keep hW).reads RR3.out.len (by rw [← R0.out.len]; exact HD.out.pksIn) (R5''.out.keep hW).reads R5''.out.len H5N.out R5''.out.nil (by have := HWK.out; rw [L2.out] at this; exact this) (by have := HD.out.pk; rw [L3.out] at this; exact this) l0 (by omega) l2 l3 rfl
    rw [← HAK.out, ← hX] at this
    exact this
  have HW3 := hide hW3
  clear hT hW1 hW2 hX hS hW3 HGR RG A5 HAK L2 L3 RR2 RR3
  go_upto_region 22 with fail
  go_wp2_with fail
  rw [← HW3.out]
  refine C13.out.mono ?_
  intro e w6 hz
  obtain ⟨a6, cap6, vc6, va6, rfl, hr6, hb6, hm6, ht6, hh6, ⟨ac6, capc6, rfl, hrc6, hmc6⟩, hsub6⟩ := hz.rows
  have Q1 := hide hr6
  have Q2 := hide hb6
  have Q3 := hide ht6
  have Q4 := hide hh6
  have Q5 := hide hrc6
  have Q6 := hide hsub6
  have Q7 := hide hm6
  have Q8 := hide hmc6
  obtain ⟨vb6, hvb6⟩ : ∃ vb, vb = if a5'.isSome = true then Value.slice ac6 S.cons.length capc6 else .slice none 0 0 := ⟨_, rfl⟩
  rw [← hvb6]
  have HVB := hide hvb6
  clear hz hr6 hb6 ht6 hh6 hrc6 hsub6 hm6 hmc6 C13 HW3 hmk0 hmkN hmkM hvb6
  go_wp2_with fail
  refine (C14.out w6 Q2.out).mono ?_
  rintro e w7 ⟨a7, cap7, rfl, hr7, hb7, -⟩
  have Q1' := hide (Q1.out.keep hb7)
  rw [HLEFT.out.chosen] at Q1' Q7 ⊢
  obtain ⟨XL, hXL⟩ : ∃ XL, XL = X.length := ⟨_, rfl⟩
  have hXm : XL ≤ 9223372036854775807 := by rw [hXL]; exact Q7.out
  rw [← hXL]
  have HXL := hide hXL
  have C15 := hide (sameInts_yes a6 a7 XL cap6 cap7 X w7 hXm hXL.symm Q1'.out hr7)
  have R7 := hide hr7
  have B7 := hide hb7
  clear hr7 hb7 hXL C14 Q1 Q7
  go_wp2_with fail
  refine C15.out.mono ?_
  rintro e w8 ⟨rfl, q8, hw8⟩
  have B8 : Hid (Below w6.heap.size w6 w8) := by rw [hw8]; exact below_drewN B7.out q8
  have R8 : Hid (Reads (Value.int .i64) w8 a7 X) := by rw [hw8]; exact R7
  have ht := Q3.out.keep B8.out
  have hh := Q4.out.keep B8.out
  rw [HLEFT.out.taken] at ht
  rw [HLEFT.out.held] at hh
  have CA := hide (allFalse_yes w5.heap.size n0 w8 (by omega) ht)
  have CB := hide (allFalse_yes (w5.heap.size + 1) M w8 (by omega) hh)
  clear C15 hw8 ht hh Q3 Q4 R7 B7
  go_wp2_with fail
  refine CA.out.mono ?_
  rintro e w9 ⟨rfl, hw9⟩
  obtain rfl := hw9.symm
  clear CA
  go_wp2_with fail
  refine CB.out.mono ?_
  rintro e w9 ⟨rfl, hw9⟩
  obtain rfl := hw9.symm
  clear CB hw9
  have BF := hide (B5.out.trans ((Q2.out.trans (B8.out.mono Q2.out.size)).mono B5.out.size))
  cases ha5 : a5' with
  | none =>
    have hv : va6 = .slice none 0 0 := by
      rcases Q6.out with ⟨_, h⟩ | ⟨ab, h, _⟩
      · exact h
      · rw [ha5] at h; cases h
    have hb : vb6 = .slice none 0 0 := by
      rw [HVB.out, ha5]
      rfl
    subst hv
    subst hb
    subst ha5
    have hnil : ∀ W, (binOp .eql 23 (.slice none n5 n5) (.slice none 0 0)).run Try.prog W = .ok (.bool true) W := fun W => eq_nil_none Try.underlying23 n5 n5 W
    have hnil2 : ∀ W, (binOp .eql 23 (.slice none 0 0) (.slice none 0 0)).run Try.prog W = .ok (.bool true) W := fun W => eq_nil_none Try.underlying23 0 0 W
    go_wp2_with fail
    go_ret
    exact ⟨rfl, BF.out⟩
  | some p5 =>
    obtain ⟨ab, hv, hab⟩ : ∃ ab, va6 = .slice (some ⟨ab, 0, none⟩) n0 n0 ∧ Hid (Own (Value.int .u8) 5 w6 ab n0 S.ofs) := by
      rcases Q6.out with ⟨h, _⟩ | ⟨ab, _, h1, h2⟩
      · rw [ha5] at h; cases h
      · exact ⟨ab, h1, h2⟩
    have hb : vb6 = .slice ac6 S.cons.length capc6 := by
      rw [HVB.out, ha5]
      rfl
    have hn5 := H5N.out (by rw [ha5]; simp)
    subst hv
    subst hb
    subst ha5
    obtain rfl : n0 = n5 := hn5.symm
    obtain ⟨Z, hZ⟩ : ∃ Z, Z = X.filter fun x => ofs.getD x.toNat 0 == 2 := ⟨_, rfl⟩
    have hSZ : S.cons = Z := by rw [hZ]; exact HLEFT.out.cons
    rw [hSZ] at Q5 Q8 ⊢
    obtain ⟨ZL, hZL⟩ : ∃ ZL, ZL = Z.length := ⟨_, rfl⟩
    rw [← hZL] at Q8 ⊢
    have HZ := hide hZ
    have HZL := hide hZL
    have Q5' := hide (Q5.out.keep B8.out)
    have hab' := hide (hab.out.keep B8.out)
    have R58 := hide (((R5''.out.reads.keep Q2.out)).keep B8.out)
    have L5 := hide R5''.out.len
    have hnil : ∀ W, (binOp .eql 23 (.slice (some p5) n0 n0) (.slice none 0 0)).run Try.prog W = .ok (.bool false) W := fun W => eq_nil_some Try.underlying23 p5 n0 n0 W
    have C11 := hide (copyU8_some p5 n0 n0 ofs w8 (by omega) L5.out R58.out)
    clear hn5 hSZ hZ hZL Q6 HVB H5N Q5 hab Q2 R5''
    go_wp2_with fail
    refine C11.out.mono ?_
    rintro e w9 ⟨rfl, ho9, hb9, hs9⟩
    have OO := hide ho9
    have BB := hide hb9
    have SS9 := hide hs9
    clear ho9 hb9 hs9 C11 hnil
    obtain ⟨i0, hi0, hz0, hz1, hz2⟩ := info_parts info3
    obtain ⟨Bs, hBs⟩ : ∃ Bs, Bs = w8.heap.size + 1 := ⟨_, rfl⟩
    obtain ⟨wo, hwo⟩ : ∃ wo, wo = w8.heap.size := ⟨_, rfl⟩
    rw [← hwo] at OO ⊢
    have HWO := hide hwo
    have HBs := hide hBs
    clear hwo hBs
    go_wp2_with fail
    go_loopw [30, 32, 33] (fun v i x wr => ∃ (k : Nat) (O : List Int), k ≤ XL ∧ i = .int .i64 k ∧ Hid (wr.ownsRow Bs 3 1 v ((X.take k).filter fun x => ofs.getD x.toNat 0 == 2).length (((X.take k).filter fun x => ofs.getD x.toNat 0 == 2).map (Value.int .i64))) ∧ Hid (Own (Value.int .u8) 5 wr wo n0 O) ∧ Hid (O.length = n0 ∧ ∀ i : Nat, O.getD i 0 = if ofs.getD i 0 = 2 ∧ (i : Int) ∈ X.take k then 0 else ofs.getD i 0) ∧ Hid (Below w8.heap.size w8 wr) ∧ Hid (Bs ≤ wr.heap.size)) (fun v i x _ => XL - (intOf i).toNat)
    case atStart =>
      refine ⟨0, ofs, Nat.zero_le _, rfl, World.ownsRow_nil _ _ _ _, OO, ⟨L5.out, fun i => ?_⟩, BB, by rw [HBs.out, SS9.out]; exact Nat.le_refl _⟩
      rw [if_neg (fun z => by have := z.2; simp at this)]
    case round =>
    clear OO BB SS9
    obtain ⟨k, O, hk, rfl, HV, HOO, HOP, HBE, HBS⟩ := hrel
    by_cases hlt : k < XL
    case pos =>
      have hltI : (k : Int) < (XL : Int) := by omega
      have hkl : k < X.length := by rw [← HXL.out]; exact hlt
      obtain ⟨x, hx, hxN⟩ := HX.out _ (List.getElem_mem hkl)
      obtain ⟨b7, o7, e7, c7⟩ := (R8.out.keep HBE.out) k hkl
      rw [hx] at c7
      subst e7
      have hxI : (x : Int) < (n0 : Int) := by omega
      have hx5 : x < ofs.length := by rw [L5.out]; exact hxN
      obtain ⟨b5, o5, e5, c5'⟩ := (R58.out.keep HBE.out) x hx5
      cases e5
      obtain ⟨y, hy⟩ : ∃ y, y = ofs.getD x 0 := ⟨_, rfl⟩
      have gy : ofs[x] = y := by
        rw [hy, List.getD_eq_getElem?_getD, List.getElem?_eq_getElem hx5]
        rfl
      rw [gy] at c5'
      have HTK : Hid (X.take (k + 1) = X.take k ++ [(x : Int)]) := by rw [List.take_succ_eq_append_getElem hkl, hx]; exact rfl
      have HY := hide hy
      obtain ⟨rs, hrs⟩ : ∃ rs, rs = (X.take k).filter fun x => ofs.getD x.toNat 0 == 2 := ⟨_, rfl⟩
      rw [← hrs] at HV
      have HRS := hide hrs
      have hrl : rs.length ≤ k := by
        rw [hrs]
        have := List.length_filter_le (fun x : Int => ofs.getD x.toNat 0 == 2) (X.take k)
        rw [List.length_take] at this
        omega
      have hkb : k ≤ 1000000 := by have := HXB.out; rw [← HXL.out] at this; omega
      clear hx gy hy hrs
      by_cases hy2 : y = 2
      · have u2 : (y == 2) = true := by simpa using hy2
        have HE : Hid ((X.take (k + 1)).filter (fun x => ofs.getD x.toNat 0 == 2) = rs ++ [(x : Int)]) := by
          rw [HTK.out, List.filter_append, ← HRS.out]
          have e : (ofs.getD ((x : Int).toNat) 0 == 2) = true := by rw [Int.toNat_natCast, ← HY.out]; exact u2
          have e2 : List.filter (fun x : Int => ofs.getD x.toNat 0 == 2) [(x : Int)] = [(x : Int)] := List.filter_cons_of_pos e
          rw [e2]
          exact rfl
        have HOP2 : Hid ((O.set x 0).length = n0 ∧ ∀ i : Nat, (O.set x 0).getD i 0 = if ofs.getD i 0 = 2 ∧ (i : Int) ∈ X.take (k + 1) then 0 else ofs.getD i 0) := by
          refine ⟨by simpa using HOP.out.1, fun i => ?_⟩
          rw [getD_set, HTK.out]
          by_cases ei : x = i
          · subst ei
            rw [if_pos ⟨rfl, by rw [HOP.out.1]; exact hxN⟩, if_pos ⟨by rw [← HY.out]; exact hy2, by simp⟩]
          · rw [if_neg (fun z => ei z.1), HOP.out.2 i]
            have : ((i : Int) ∈ X.take k ++ [(x : Int)]) ↔ (i : Int) ∈ X.take k := by
              rw [List.mem_append, List.mem_singleton]
              exact ⟨fun h => h.elim id (fun h => by omega), .inl⟩
            simp only [this]
        have hwoB : wo < Bs := by rw [HWO.out, HBs.out]; omega
        have hwoW : wo < wr.heap.size := HOO.out.lt
        subst hy2
        go_wp2_with (at_builtin; refine wpList_append_lies _ rfl _ _ _ rfl Bs 3 i0 _ 1 8 Try.underlying22 hi0 hz0 hz1 hz2 rfl (by omega) u30 rs.length (rs.map (Value.int .i64)) rfl (HV.out.alloc _) _ 1 1 [.int .i64 (x : Int)] rfl rfl (news_one _ _ _ _ (by first | rfl | simp)) (one_oneCell _ rfl) (by omega) (by unfold maxLen; omega) (by omega) (by have := HBS.out; simp; omega) (wr.heap.size + 1) (by simp) ?_)
        intro g cap wA hown hgrow hat hltA
        have hsz : (wr.alloc (.cells #[.int .i64 (x : Int)] 3)).heap.size = wr.heap.size + 1 := by simp
        have hvB : ∀ q, u30.ownBlock = some q → Bs ≤ q := fun q hq => (HV.out.lt q hq).1
        have hoA : Own (Value.int .u8) 5 wA wo n0 O := (HOO.out.alloc (.cells #[.int .i64 (x : Int)] 3)).of_block (hgrow.block wo (by omega) (fun e => by have := hvB wo e.symm; omega))
        obtain ⟨uo, huo⟩ := hoA.there hxN
        have fo := hoA.frozen x
        have HO2 := hide (hoA.set x 0)
        have hgB : Bs ≤ g := by
          rcases hat with h | h
          · exact hvB g h
          · have := HBS.out; omega
        have HRW : Hid ((wA.setCell ⟨wo, x, none⟩ (.int .u8 0)).ownsRow Bs 3 1 (.slice (some ⟨g, 0, none⟩) (rs.length + 1) cap) ((X.take (k + 1)).filter fun x => ofs.getD x.toNat 0 == 2).length (((X.take (k + 1)).filter fun x => ofs.getD x.toNat 0 == 2).map (Value.int .i64))) := by
          rw [HE.out, List.length_append, List.length_singleton, List.map_append]
          exact ownsRow_keep hown fun q hq => Below.heap_setCell _ _ _ _ (by
            have : g = q := by simpa [Value.ownBlock] using hq
            show q ≠ wo
            omega)
        have HBA : Hid (Below w8.heap.size w8 (wA.setCell ⟨wo, x, none⟩ (.int .u8 0))) := by
          have a1 := HBE.out.alloc (by have := HBS.out; have := HBs.out; omega) (.cells #[.int .i64 (x : Int)] 3)
          have a2 := a1.trans ⟨hgrow.os, hgrow.tape, hgrow.output, hgrow.size, fun q hq => hgrow.block q (by have := HBS.out; have := HBs.out; omega) (fun e => by have := hvB q e.symm; have := HBs.out; omega)⟩
          exact a2.setCell (by show w8.heap.size ≤ wo; rw [HWO.out]; exact Nat.le_refl _) _
        have HBS2 : Hid (Bs ≤ (wA.setCell ⟨wo, x, none⟩ (.int .u8 0)).heap.size) := by
          have h1 := hgrow.size
          have h2 := HBS.out
          exact (by simp; omega : Bs ≤ (wA.setCell ⟨wo, x, none⟩ (.int .u8 0)).heap.size)
        clear hown hgrow hat hltA hsz hvB hoA hgB
        go_wp2_with fail
        go_roundw
        case rel => exact ⟨k + 1, _, by omega, by go_num, HRW, HO2, HOP2, HBA, HBS2⟩
        case measure => simp [intOf]; omega
      · have u2 : (y == 2) = false := by simpa using hy2
        have HE : Hid ((X.take (k + 1)).filter (fun x => ofs.getD x.toNat 0 == 2) = rs) := by
          rw [HTK.out, List.filter_append, ← HRS.out]
          have e : ¬ (ofs.getD ((x : Int).toNat) 0 == 2) = true := by rw [Int.toNat_natCast, ← HY.out, u2]; simp
          have e2 : List.filter (fun x : Int => ofs.getD x.toNat 0 == 2) [(x : Int)] = [] := List.filter_cons_of_neg e
          rw [e2, List.append_nil]
          exact rfl
        have HOP2 : Hid (O.length = n0 ∧ ∀ i : Nat, O.getD i 0 = if ofs.getD i 0 = 2 ∧ (i : Int) ∈ X.take (k + 1) then 0 else ofs.getD i 0) := by
          refine ⟨HOP.out.1, fun i => ?_⟩
          rw [HOP.out.2 i, HTK.out]
          by_cases ei : x = i
          · subst ei
            rw [← HY.out, if_neg (fun z => hy2 z.1), if_neg (fun z => hy2 z.1)]
          · have : ((i : Int) ∈ X.take k ++ [(x : Int)]) ↔ (i : Int) ∈ X.take k := by
              rw [List.mem_append, List.mem_singleton]
              exact ⟨fun h => h.elim id (fun h => by omega), .inl⟩
            simp only [this]
        clear hy2
        go_wp2_with fail
        go_roundw
        case rel => exact ⟨k + 1, O, by omega, by go_num, by rw [HE.out]; exact HV, HOO, HOP2, HBE, HBS⟩
        case measure => simp [intOf]; omega
    obtain rfl : k = XL := by omega
    obtain ⟨XL, rfl⟩ : ∃ XL, XL = k := ⟨_, rfl⟩
    have hxt : X.take XL = X := by rw [HXL.out]; exact List.take_length ..
    have hv := HV.out
    rw [hxt, ← HZ.out] at hv
    obtain ⟨av, cv, ev, rv⟩ : ∃ av cv, u30 = .slice av ZL cv ∧ Hid (Reads (Value.int .i64) wr av Z) := by
      rcases hv.2 with ⟨h1, hn⟩ | ⟨g, cap, cur, h1, _⟩
      · exact ⟨none, 0, by rw [h1, HZL.out, hn], fun i hi => by omega⟩
      · have h2 := hv
        rw [h1] at h2
        exact ⟨some ⟨g, 0, none⟩, cap, by rw [h1, HZL.out], (Own.of_ownsRow h2).1.reads⟩
    subst ev
    have hSO : S.ofs = O := by
      apply List.ext_getElem?
      intro i
      have l1 : S.ofs.length = n0 := by rw [HLEFT.out.ofl]; exact L5.out
      have l2 := HOP.out.1
      by_cases hi : i < n0
      · have h1 := HLEFT.out.ofs i
        have h2 := HOP.out.2 i
        rw [hxt] at h2
        rw [← h2] at h1
        rw [List.getD_eq_getElem?_getD, List.getD_eq_getElem?_getD, List.getElem?_eq_getElem (by omega), List.getElem?_eq_getElem (by omega)] at h1
        rw [List.getElem?_eq_getElem (by omega), List.getElem?_eq_getElem (by omega)]
        exact congrArg some h1
      · rw [List.getElem?_eq_none (by omega), List.getElem?_eq_none (by omega)]
    have r1 := (hab'.out.keep HBE.out).reads
    rw [hSO] at r1
    have C15 := hide (sameInts_yes ac6 av ZL capc6 cv Z wr Q8.out HZL.out.symm (Q5'.out.keep HBE.out) rv.out)
    have C17 := hide (fun q => sameU8_yes (some ⟨ab, 0, none⟩) (some ⟨wo, 0, none⟩) n0 n0 n0 O (wr.drewN q) (by omega) HOP.out.1 r1 HOO.out.reads)
    have BG := hide (BF.out.trans (HBE.out.mono BF.out.size))
    clear hxt hv hSO r1
    go_wp2_with fail
    refine C15.out.mono ?_
    rintro e wA ⟨rfl, qA, hwA⟩
    subst hwA
    clear C15
    go_wp2_with fail
    refine (C17.out qA).mono ?_
    rintro e wB ⟨rfl, qB, hwB⟩
    subst hwB
    clear C17
    go_wp2_with fail
    go_ret
    exact ⟨rfl, below_drewN BG.out (qA + qB)⟩
#print axioms listm_walk
end Go.Proofs.Qxb6604780a
