/-
  The walk of state: a tally made from scratch.
-/
import Derived.Test.Qxb6604777aLayout
import Derived.Test.Qxb6604777aColumns
import Derived.Test.Qxb6604777aClones
namespace Go.Proofs.Qxb6604777a
set_option linter.unusedSimpArgs false
set_option linter.unusedVariables false
open Go.RowKit

theorem summary_at (a : Option Addr) (cap n : Nat) (lo m : Nat) (xs : List ByteArray) (w : World) (hl : n ≤ 1048576) (hn : xs.length = n) (hhi : lo + m ≤ n) (hr : Reads Value.string w a xs) (lz hz : Int) (hlz : lz = (lo : Int)) (hzz : hz = (lo : Int) + (m : Int)) :
    Calls Try.prog 18 #[.slice a n cap, .int .i64 lz, .int .i64 hz] w fun e w' => e = .returned (.tuple #[.int .i64 (presC (colAt xs lo m)), .int .i64 (eqC (colAt xs lo m)), .string (refC (colAt xs lo m))]) ∧ w' = w := by
  subst hlz
  exact summary_any a cap n lo m xs w hl hn hhi hr hz hzz
theorem allAgree_at (a : Option Addr) (cap n : Nat) (lo m : Nat) (xs : List ByteArray) (w : World) (hl : n ≤ 1048576) (hn : xs.length = n) (hhi : lo + m ≤ n) (hr : Reads Value.string w a xs) (lz hz : Int) (hlz : lz = (lo : Int)) (hzz : hz = (lo : Int) + (m : Int)) :
    Calls Try.prog 20 #[.slice a n cap, .int .i64 lz, .int .i64 hz] w fun e w' => e = .returned (.bool (agrC (colAt xs lo m))) ∧ w' = w := by
  subst hlz
  exact allAgree_any a cap n lo m xs w hl hn hhi hr hz hzz

/-- The rows of summaries in the midst of their making. -/
structure SumAt (s K M : Nat) (rec : List ByteArray) (F : Nat) (w w1 wr : World) : Prop where
  low : Below w.heap.size w wr
  keep : Below s w1 wr
  pres : Own (Value.int .i64) 3 wr s K (presL M rec F)
  eq : Own (Value.int .i64) 3 wr (s + 1) K (eqL M rec F)
  ref : Own Value.string 9 wr (s + 2) K (refL M rec F)
  size : wr.heap.size = s + 3

theorem sum_start (s K M : Nat) (rec : List ByteArray) (w w1 : World) (hs : w1.heap.size = s) (hw : Below w.heap.size w w1) (z z' z'' : Value) :
    SumAt s K M rec 0 w w1 (((w1.alloc (.cells (madeCells #[z] K) 3)).alloc (.cells (madeCells #[z'] K) 3)).alloc (.cells (madeCells #[z''] K) 9)) := by
  subst hs
  have hsz := hw.size
  refine ⟨?_, ?_, ?_, ?_, ?_, by simp⟩
  · exact ((hw.alloc hsz _).alloc (by simp; omega) _).alloc (by simp; omega) _
  · exact (((Below.refl _ _).alloc (Nat.le_refl _) _).alloc (by simp) _).alloc (by simp; omega) _
  · exact ((Own.made_none w1 K 3 z).alloc _).alloc _
  · have := (Own.made_none (f := Value.int .i64) (w1.alloc (.cells (madeCells #[z] K) 3)) K 3 z').alloc (.cells (madeCells #[z''] K) 9)
    rw [World.size_alloc] at this
    exact this
  · have := Own.made_none (f := Value.string) ((w1.alloc (.cells (madeCells #[z] K) 3)).alloc (.cells (madeCells #[z'] K) 3)) K 9 z''
    rw [World.size_alloc, World.size_alloc] at this
    exact this

theorem sum_step {s K M : Nat} {rec : List ByteArray} {F : Nat} {w w1 wr : World} (h : SumAt s K M rec F w w1 wr) (hs : w.heap.size ≤ s) (hF : F < K) :
    SumAt s K M rec (F + 1) w w1 (((wr.setCell ⟨s, F, none⟩ (.int .i64 (presC (colAt rec (F * M) M)))).setCell ⟨s + 1, F, none⟩ (.int .i64 (eqC (colAt rec (F * M) M)))).setCell ⟨s + 2, F, none⟩ (.string (refC (colAt rec (F * M) M)))) := by
  refine ⟨?_, ?_, ?_, ?_, ?_, by simpa using h.size⟩
  · exact ((h.low.setCell (by exact hs) _).setCell (by show _ ≤ s + 1; omega) _).setCell (by show _ ≤ s + 2; omega) _
  · exact ((h.keep.setCell (by exact Nat.le_refl _) _).setCell (by show _ ≤ s + 1; omega) _).setCell (by show _ ≤ s + 2; omega) _
  · rw [presL_succ]
    have := h.pres.push (by rw [presL_length]; exact hF) (presC (colAt rec (F * M) M) : Int)
    rw [presL_length] at this
    exact (this.other (by simp) _).other (by simp) _
  · rw [eqL_succ]
    have := (h.eq.other (p := ⟨s, F, none⟩) (by simp) (.int .i64 (presC (colAt rec (F * M) M)))).push (by rw [eqL_length]; exact hF) (eqC (colAt rec (F * M) M) : Int)
    rw [eqL_length] at this
    exact this.other (by simp) _
  · rw [refL_succ]
    have := ((h.ref.other (p := ⟨s, F, none⟩) (by simp) (.int .i64 (presC (colAt rec (F * M) M)))).other (p := ⟨s + 1, F, none⟩) (by simp) (.int .i64 (eqC (colAt rec (F * M) M)))).push (by rw [refL_length]; exact hF) (refC (colAt rec (F * M) M))
    rw [refL_length] at this
    exact this

theorem mul_room {F K M n2 : Nat} (h : n2 = K * M) (hF : F < K) : F * M + M ≤ n2 := by
  subst h
  have : (F + 1) * M ≤ K * M := Nat.mul_le_mul_right M hF
  rw [Nat.add_mul] at this
  omega

/-- The row of supports in the midst of its making. -/
structure SupAt (s M : Nat) (inputs rec : List ByteArray) (vo : Option (List Bool)) (F C : Nat) (w w2 wr : World) : Prop where
  low : Below w.heap.size w wr
  keep : Below (s + 3) w2 wr
  sup : Own (Value.int .i64) 3 wr (s + 3) M (supR M inputs rec vo F C)
  size : wr.heap.size = s + 4

theorem sup_start (s M : Nat) (inputs rec : List ByteArray) (vo : Option (List Bool)) (w w2 : World) (hs : w2.heap.size = s + 3) (hw : Below w.heap.size w w2) :
    SupAt s M inputs rec vo 0 0 w w2 (w2.alloc (.cells (madeCells #[.int .i64 0] M) 3)) := by
  have hsz := hw.size
  refine ⟨hw.alloc hsz _, ?_, ?_, by simp [hs]⟩
  · have := (Below.refl w2.heap.size w2).alloc (Nat.le_refl _) (.cells (madeCells #[.int .i64 0] M) 3)
    rw [hs] at this
    exact this
  · rw [supR_zero, supL_zero]
    have := Own.made (f := Value.int .i64) w2 0 M 3 _ rfl
    rw [hs] at this
    exact this

theorem sup_next {s M : Nat} {inputs rec : List ByteArray} {vo : Option (List Bool)} {F : Nat} {w w2 wr : World} (h : SupAt s M inputs rec vo F M w w2 wr) : SupAt s M inputs rec vo (F + 1) 0 w w2 wr :=
  ⟨h.low, h.keep, by rw [supR_zero, ← supR_full]; exact h.sup, h.size⟩
theorem sup_no {s M : Nat} {inputs rec : List ByteArray} {vo : Option (List Bool)} {F C : Nat} {w w2 wr : World} (h : SupAt s M inputs rec vo F C w w2 wr) (hC : C < M) (hc : contr M inputs rec vo F C = false) : SupAt s M inputs rec vo F (C + 1) w w2 wr :=
  ⟨h.low, h.keep, by rw [supR_no _ _ _ _ _ _ hC hc]; exact h.sup, h.size⟩
theorem sup_yes {s M : Nat} {inputs rec : List ByteArray} {vo : Option (List Bool)} {F C : Nat} {w w2 wr : World} (h : SupAt s M inputs rec vo F C w w2 wr) (hs : w.heap.size ≤ s) (hC : C < M) (hc : contr M inputs rec vo F C = true) :
    SupAt s M inputs rec vo F (C + 1) w w2 (wr.setCell ⟨s + 3, C, none⟩ (.int .i64 ((supN M inputs rec vo F C : Int) + 1))) :=
  ⟨h.low.setCell (by show _ ≤ s + 3; omega) _, h.keep.setCell (by exact Nat.le_refl _) _, by rw [supR_yes _ _ _ _ _ _ hC hc]; exact h.sup.set C _, by simpa using h.size⟩

theorem contr_no1 {M : Nat} {inputs rec : List ByteArray} {vo : Option (List Bool)} {F C : Nat} (h : F * M + C < rec.length) (hx : rec[F * M + C].toList.isEmpty = true) : contr M inputs rec vo F C = false := by
  have : rec.getD (F * M + C) emptyS = rec[F * M + C] := by rw [List.getD_eq_getElem?_getD, List.getElem?_eq_getElem h]; rfl
  rw [contr, this, nem_false hx]
  rfl
theorem contr_no2 {M : Nat} {inputs rec : List ByteArray} {vo : Option (List Bool)} {F C : Nat} (h : F * M + C < rec.length) (h2 : C < inputs.length) (hx : (rec[F * M + C].toList == inputs[C].toList) = false) : contr M inputs rec vo F C = false := by
  have e1 : rec.getD (F * M + C) emptyS = rec[F * M + C] := by rw [List.getD_eq_getElem?_getD, List.getElem?_eq_getElem h]; rfl
  have e2 : inputs.getD C emptyS = inputs[C] := by rw [List.getD_eq_getElem?_getD, List.getElem?_eq_getElem h2]; rfl
  rw [contr, e1, e2, hx]
  simp
theorem contr_no3 {M : Nat} {inputs rec : List ByteArray} {vo : Option (List Bool)} {F C : Nat} (h : agrC (colAt rec (F * M) M) = false) : contr M inputs rec vo F C = false := by
  simp [contr, h]
theorem contr_no4 {M : Nat} {inputs rec : List ByteArray} {vo : Option (List Bool)} {F C : Nat} (h : voidAt vo (F * M + C) = true) : contr M inputs rec vo F C = false := by
  simp [contr, h]
theorem contr_yes {M : Nat} {inputs rec : List ByteArray} {vo : Option (List Bool)} {F C : Nat} (h : F * M + C < rec.length) (h2 : C < inputs.length) (hx : rec[F * M + C].toList.isEmpty = false) (he : (rec[F * M + C].toList == inputs[C].toList) = true)
    (ha : agrC (colAt rec (F * M) M) = true) (hv : voidAt vo (F * M + C) = false) : contr M inputs rec vo F C = true := by
  have e1 : rec.getD (F * M + C) emptyS = rec[F * M + C] := by rw [List.getD_eq_getElem?_getD, List.getElem?_eq_getElem h]; rfl
  have e2 : inputs.getD C emptyS = inputs[C] := by rw [List.getD_eq_getElem?_getD, List.getElem?_eq_getElem h2]; rfl
  rw [contr, e1, e2, he, ha, hv, nem_true hx]
  rfl

/-- The flags of voided entries, as a call hands them over: nil, or a slice of as many flags as there are entries. -/
def VoidIs (w : World) (a3 : Option Addr) (n3 n2 : Nat) (vo : Option (List Bool)) : Prop :=
  (a3 = none ∧ vo = none) ∨ ∃ p vs, a3 = some p ∧ vo = some vs ∧ n3 = n2 ∧ vs.length = n2 ∧ Reads Value.bool w (some p) vs

/-- The flags' field of a tally made from scratch. -/
def voidV (s n2 : Nat) : Option (List Bool) → Value
  | none => .slice none 0 0
  | some _ => .slice (some ⟨s + 6, 0, none⟩) n2 n2
/-- A tally made from scratch, as a value: its rows' blocks begin at c and at s. -/
def tallyV (c s n0 M K n2 : Nat) (vo : Option (List Bool)) : Value :=
  .agg #[.slice (some ⟨c, 0, none⟩) M n0, .slice (some ⟨c + 1, 0, none⟩) K n0, .slice (some ⟨c + 2, 0, none⟩) n0 n0, .slice (some ⟨s + 4, 0, none⟩) M M, .slice (some ⟨s + 5, 0, none⟩) n2 n2, voidV s n2 vo,
    .slice (some ⟨s, 0, none⟩) K K, .slice (some ⟨s + 1, 0, none⟩) K K, .slice (some ⟨s + 2, 0, none⟩) K K, .slice (some ⟨s + 3, 0, none⟩) M M]
/-- What its rows hold. -/
structure StateAt (w' : World) (c s n0 M K n2 : Nat) (mask : List Bool) (inputs rec : List ByteArray) (vo : Option (List Bool)) : Prop where
  corr : Own (Value.int .i64) 3 w' c n0 (corrK mask n0)
  faul : Own (Value.int .i64) 3 w' (c + 1) n0 (faulK mask n0)
  idx : Own (Value.int .i64) 3 w' (c + 2) n0 (idxK mask n0)
  ins : Own Value.string 9 w' (s + 4) M inputs
  recs : Own Value.string 9 w' (s + 5) n2 rec
  void : ∀ vs, vo = some vs → Own Value.bool 4 w' (s + 6) n2 vs
  pres : Own (Value.int .i64) 3 w' s K (presL M rec K)
  eq : Own (Value.int .i64) 3 w' (s + 1) K (eqL M rec K)
  ref : Own Value.string 9 w' (s + 2) K (refL M rec K)
  sup : Own (Value.int .i64) 3 w' (s + 3) M (supL M inputs rec vo K)
  apart : c + 3 ≤ s

set_option maxRecDepth 100000 in
set_option maxHeartbeats 4000000 in
theorem state_any (a0 a3 : Option Addr) (p1 p2 : Addr) (n0 n2 n3 c0 c1 c2 c3 M K : Nat) (mask : List Bool) (inputs rec : List ByteArray) (vo : Option (List Bool)) (w : World) (hl0 : n0 ≤ 65536) (hl1 : M ≤ 65536) (hlK : K ≤ 65536) (hl2 : n2 ≤ 65536)
    (hn0 : mask.length = n0) (hn1 : inputs.length = M) (hn2 : rec.length = n2) (hM : cF mask = M) (hK : cT mask = K) (hk : n2 = K * M)
    (hr0 : Reads Value.bool w a0 mask) (hr1 : Reads Value.string w (some p1) inputs) (hr2 : Reads Value.string w (some p2) rec) (hvo : VoidIs w a3 n3 n2 vo) :
    Calls Try.prog 12 #[.slice a0 n0 c0, .slice (some p1) M c1, .slice (some p2) n2 c2, .slice a3 n3 c3] w fun e w' => (∃ s, e = .returned (tallyV (w.heap.size + 1) s n0 M K n2 vo) ∧ StateAt w' (w.heap.size + 1) s n0 M K n2 mask inputs rec vo) ∧ Below w.heap.size w w' := by
  have HL : Hid (∀ w, Reads Value.bool w a0 mask → Calls Try.prog 10 #[.slice a0 n0 c0] w fun e w' => e = .returned (.tuple #[.slice (some ⟨w.heap.size, 0, none⟩) M n0, .slice (some ⟨w.heap.size + 1, 0, none⟩) K n0, .slice (some ⟨w.heap.size + 2, 0, none⟩) n0 n0]) ∧ LayAt w.heap.size n0 mask n0 w w') := fun w h => by
    have := layout_any a0 n0 c0 mask w hl0 hn0 h
    rw [hM, hK] at this
    exact this
  have H2 : Hid (rec.length = n2) := hn2
  have HK : Hid (n2 = K * M) := hk
  have H1 : Hid (inputs.length = M) := hn1
  clear hn0 hn1 hn2 hM hK hk
  have hmi := run_make_row' (P := Try.prog) 27 3 (.int .i64 0) 8 Try.underlying27 info3 rfl .i64 .i64 K (by omega) (by omega)
  have hms := run_make_row' (P := Try.prog) 23 9 (.string ByteArray.empty) 16 Try.underlying23 info9 rfl .i64 .i64 K (by omega) (by omega)
  have hmM := run_make_row' (P := Try.prog) 27 3 (.int .i64 0) 8 Try.underlying27 info3 rfl .i64 .i64 M (by omega) (by omega)
  have HmM : Hid (∀ (w : World), (Instr.makeSlice 27 (.int .i64 (M : Int)) (.int .i64 (M : Int))).run Try.prog w = .ok (.slice (some ⟨w.heap.size, 0, none⟩) M M) (w.alloc (.cells (madeCells #[.int .i64 0] M) 3))) := hmM
  clear hmM
  go_enter Try.func12, Try.ntmps12
  go_wp2_with fail
  refine (HL.out _ (hr0.keep ((Below.refl _ _).alloc (Nat.le_refl _) _))).mono ?_
  rintro e w1 ⟨rfl, hlay⟩
  rw [World.size_alloc] at hlay ⊢
  have hlow1 : Below w.heap.size w w1 := ((Below.refl _ _).alloc (Nat.le_refl _) _).trans (hlay.low.mono (by omega))
  have hsz1 := hlay.size
  obtain ⟨s, hs⟩ : ∃ s, w1.heap.size = s := ⟨_, rfl⟩
  have hbs : w.heap.size + 4 ≤ s := by omega
  go_wp2
  clear hmi hms
  have start := sum_start s K M rec w w1 hs hlow1 (.int .i64 0) (.int .i64 0) (.string ByteArray.empty)
  have S0 : Hid (SumAt s K M rec 0 w w1 (((w1.alloc (.cells (madeCells #[.int .i64 0] K) 3)).alloc (.cells (madeCells #[.int .i64 0] K) 3)).alloc (.cells (madeCells #[.string ByteArray.empty] K) 9))) := start
  clear start
  go_loopw [17] (fun v wr => ∃ F : Nat, F ≤ K ∧ v = .int .i64 F ∧ SumAt s K M rec F w w1 wr) (fun v _ => K - (intOf v).toNat)
  case atStart => exact ⟨0, Nat.zero_le _, rfl, S0.out⟩
  case round =>
    obtain ⟨F, hF, rfl, hS⟩ := hrel
    by_cases hlt : F < K
    · have hroom := mul_room HK.out hlt
      have hi1 : (F : Int) * (M : Int) + (M : Int) ≤ 65536 := by omega
      have hi0 : (0 : Int) ≤ (F : Int) * (M : Int) := by omega
      obtain ⟨v1, hv1⟩ := hS.pres.there hlt
      obtain ⟨v2, hv2⟩ := hS.eq.there hlt
      obtain ⟨v3, hv3⟩ := hS.ref.there hlt
      have f1 := hS.pres.frozen F
      have f2 := hS.eq.frozen F
      have f3 := hS.ref.frozen F
      go_wp2_with fail
      refine (summary_at (some p2) c2 n2 (F * M) M rec wr (by omega) H2.out (by omega) (hr2.keep hS.low) _ _ (by simp) (by simp)).mono ?_
      rintro e w' ⟨rfl, hw'⟩
      obtain rfl := hw'.symm
      have hS' := sum_step hS (by omega) hlt
      have HS' : Hid (SumAt s K M rec (F + 1) w w1 (((wr.setCell ⟨s, F, none⟩ (.int .i64 (presC (colAt rec (F * M) M)))).setCell ⟨s + 1, F, none⟩ (.int .i64 (eqC (colAt rec (F * M) M)))).setCell ⟨s + 2, F, none⟩ (.string (refC (colAt rec (F * M) M))))) := hS'
      clear hS'
      go_wp2
      go_roundw
      case rel => exact ⟨F + 1, by omega, by go_num, HS'.out⟩
      case measure => simp [intOf]; omega
    · obtain rfl : F = K := by omega
      obtain ⟨w2, rfl⟩ : ∃ w2, w2 = wr := ⟨wr, rfl⟩
      have hmM := HmM.out
      have hwsz := hS.size
      go_wp2
      clear hmM
      have S0 : Hid (SupAt s M inputs rec vo 0 0 w w2 (w2.alloc (.cells (madeCells #[.int .i64 0] M) 3))) := sup_start s M inputs rec vo w w2 hS.size hS.low
      go_loopw [22] (fun v wx => ∃ G : Nat, G ≤ F ∧ v = .int .i64 G ∧ SupAt s M inputs rec vo G 0 w w2 wx) (fun v _ => F - (intOf v).toNat)
      case atStart => exact ⟨0, Nat.zero_le _, rfl, S0.out⟩
      case round =>
        obtain ⟨G, hG, rfl, hP⟩ := hrel
        by_cases hltG : G < F
        · have hroom := mul_room HK.out hltG
          have hi1 : (G : Int) * (M : Int) + (M : Int) ≤ 65536 := by omega
          have hi0 : (0 : Int) ≤ (G : Int) * (M : Int) := by omega
          go_wp2_with fail
          refine (allAgree_at (some p2) c2 n2 (G * M) M rec wr (by omega) H2.out (by omega) (hr2.keep hP.low) _ _ (by simp) (by simp)).mono ?_
          rintro e w' ⟨rfl, hw'⟩
          obtain rfl := hw'.symm
          go_wp2
          have P0 : Hid (SupAt s M inputs rec vo G 0 w w2 wr) := hP
          clear hP
          obtain ⟨A, hA⟩ : ∃ A, agrC (colAt rec (G * M) M) = A := ⟨_, rfl⟩
          rw [hA]
          have HA : Hid (agrC (colAt rec (G * M) M) = A) := hA
          clear hA
          go_loopw [24] (fun v wx => ∃ C : Nat, C ≤ M ∧ v = .int .i64 C ∧ SupAt s M inputs rec vo G C w w2 wx) (fun v _ => M - (intOf v).toNat)
          case atStart => exact ⟨0, Nat.zero_le _, rfl, P0.out⟩
          case round =>
            obtain ⟨C, hC, rfl, hP⟩ := hrel
            by_cases hltC : C < M
            · have hix : G * M + C < rec.length := by have := H2.out; omega
              have hCx : C < inputs.length := by have := H1.out; omega
              obtain ⟨b, o, hp, hc0⟩ := hr2 (G * M + C) hix
              cases hp
              have hc : wr.cell? ⟨b, o + (G * M + C), none⟩ = some (.string rec[G * M + C]) := (hP.low.cell (lt_of_cell hc0)).trans hc0
              have hiI : (G : Int) * (M : Int) + (C : Int) < (n2 : Int) := by omega
              clear hc0
              by_cases hx : rec[G * M + C].toList.isEmpty = true
              · go_wp2
                go_roundw
                case rel => exact ⟨C + 1, by omega, by go_num, sup_no hP hltC (contr_no1 hix hx)⟩
                case measure => simp [intOf]; omega
              · have hx' : rec[G * M + C].toList.isEmpty = false := by simpa using hx
                clear hx
                obtain ⟨b1, o1, hp1, hc10⟩ := hr1 C hCx
                cases hp1
                have hc1 : wr.cell? ⟨b1, o1 + C, none⟩ = some (.string inputs[C]) := (hP.low.cell (lt_of_cell hc10)).trans hc10
                clear hc10
                by_cases he : (rec[G * M + C].toList == inputs[C].toList) = true
                · cases A with
                  | false =>
                    go_wp2
                    go_roundw
                    case rel => exact ⟨C + 1, by omega, by go_num, sup_no hP hltC (contr_no3 HA.out)⟩
                    case measure => simp [intOf]; omega
                  | true =>
                    have hsup : wr.cell? ⟨s + 3, C, none⟩ = some (.int .i64 (supN M inputs rec vo G C : Int)) := by
                      have := hP.sup.cell (i := C) (by rw [supR_length]; exact hltC)
                      rw [supR_at _ _ _ _ _ _ hltC] at this
                      exact this
                    have hfz := hP.sup.frozen C
                    have hle := supN_le M inputs rec vo G C
                    rcases hvo with ⟨rfl, rfl⟩ | ⟨p, vs, rfl, rfl, hn3, hvl, hrv⟩
                    · have hnil := ne_nil_none Try.underlying22 n3 c3
                      have hP' := sup_yes hP (by omega) hltC (contr_yes hix hCx hx' he HA.out rfl)
                      have HP' : Hid (SupAt s M inputs rec none G (C + 1) w w2 (wr.setCell ⟨s + 3, C, none⟩ (.int .i64 ((supN M inputs rec none G C : Int) + 1)))) := hP'
                      clear hP'
                      go_wp2
                      go_roundw
                      case rel => exact ⟨C + 1, by omega, by go_num, HP'.out⟩
                      case measure => simp [intOf]; omega
                    · have hix3 : G * M + C < vs.length := by omega
                      have hiI3 : (G : Int) * (M : Int) + (C : Int) < (n3 : Int) := by omega
                      obtain ⟨b3, o3, hp3, hc30⟩ := hrv (G * M + C) hix3
                      cases hp3
                      have hc3' : wr.cell? ⟨b3, o3 + (G * M + C), none⟩ = some (.bool vs[G * M + C]) := (hP.low.cell (lt_of_cell hc30)).trans hc30
                      have hnil := ne_nil_some Try.underlying22 ⟨b3, o3, none⟩ n3 c3
                      have hvd : voidAt (some vs) (G * M + C) = vs[G * M + C] := getD_bool vs _ hix3
                      have HVD : Hid (voidAt (some vs) (G * M + C) = vs[G * M + C]) := hvd
                      clear hc30 hn3 hvl hvd
                      by_cases hfl : vs[G * M + C] = true
                      · have HFL : Hid (vs[G * M + C] = true) := hfl
                        rw [hfl] at hc3'
                        clear hfl
                        go_wp2
                        go_roundw
                        case rel => exact ⟨C + 1, by omega, by go_num, sup_no hP hltC (contr_no4 (HVD.out.trans HFL.out))⟩
                        case measure => simp [intOf]; omega
                      · have hfl' : vs[G * M + C] = false := by simpa using hfl
                        have HFL : Hid (vs[G * M + C] = false) := hfl'
                        rw [hfl'] at hc3'
                        clear hfl hfl'
                        have hP' := sup_yes hP (by omega) hltC (contr_yes hix hCx hx' he HA.out (HVD.out.trans HFL.out))
                        have HP' : Hid (SupAt s M inputs rec (some vs) G (C + 1) w w2 (wr.setCell ⟨s + 3, C, none⟩ (.int .i64 ((supN M inputs rec (some vs) G C : Int) + 1)))) := hP'
                        clear hP'
                        go_wp2
                        go_roundw
                        case rel => exact ⟨C + 1, by omega, by go_num, HP'.out⟩
                        case measure => simp [intOf]; omega
                · have he' : (rec[G * M + C].toList == inputs[C].toList) = false := by simpa using he
                  clear he
                  go_wp2
                  go_roundw
                  case rel => exact ⟨C + 1, by omega, by go_num, sup_no hP hltC (contr_no2 hix hCx he')⟩
                  case measure => simp [intOf]; omega
            · obtain rfl : C = M := by omega
              go_wp2
              go_roundw
              case rel => exact ⟨G + 1, by omega, by go_num, sup_next hP⟩
              case measure => simp [intOf]; omega
        · obtain rfl : G = F := by omega
          obtain ⟨w3, rfl⟩ : ∃ w3, w3 = wr := ⟨wr, rfl⟩
          have hw3 := hP.size
          have hB : w3.heap[w.heap.size]? = some (.cells #[.slice none 0 0, .slice none 0 0, .slice none 0 0, .slice none 0 0, .slice none 0 0, .slice none 0 0, .slice none 0 0, .slice none 0 0, .slice none 0 0, .slice none 0 0] 31 (0, 0)) := by
            rw [hP.keep.block _ (by omega), hS.keep.block _ (by omega), hlay.low.block _ (by omega)]
            exact heap_alloc_new _ _
          have HB : Hid (w3.heap[w.heap.size]? = some (.cells #[.slice none 0 0, .slice none 0 0, .slice none 0 0, .slice none 0 0, .slice none 0 0, .slice none 0 0, .slice none 0 0, .slice none 0 0, .slice none 0 0, .slice none 0 0] 31 (0, 0))) := hB
          clear hB
          go_wp2_with fail
          refine (cloneStrings_some p1 c1 M inputs w3 (by omega) H1.out (hr1.keep hP.low)).mono ?_
          rintro e w4 ⟨rfl, ho4, hb4, hs4⟩
          have hlow4 : Below w.heap.size w w4 := hP.low.trans (hb4.mono (by omega))
          rw [hw3] at ho4 hs4
          go_wp2_with fail
          refine (cloneStrings_some p2 c2 n2 rec w4 (by omega) H2.out (hr2.keep hlow4)).mono ?_
          rintro e w5 ⟨rfl, ho5, hb5, hs5⟩
          have hlow5 : Below w.heap.size w w5 := hlow4.trans (hb5.mono (by omega))
          rw [hs4] at ho5 hs5
          go_wp2_with fail
          rcases hvo with ⟨rfl, rfl⟩ | ⟨p, vs, rfl, rfl, hn3, hvl, hrv⟩
          · refine (cloneBools_none n3 c3 w5).mono ?_
            rintro e w' ⟨rfl, hw'⟩
            obtain rfl := hw'.symm
            have hB5 : w5.heap[w.heap.size]? = some (.cells #[.slice none 0 0, .slice none 0 0, .slice none 0 0, .slice none 0 0, .slice none 0 0, .slice none 0 0, .slice none 0 0, .slice none 0 0, .slice none 0 0, .slice none 0 0] 31 (0, 0)) := by
              rw [hb5.block _ (by omega), hb4.block _ (by omega), HB.out]
            have hc0 : ∀ i, i < 10 → w5.cell? ⟨w.heap.size, i, none⟩ = some (.slice none 0 0) := by
              intro i hi
              match i, hi with
              | 0, _ | 1, _ | 2, _ | 3, _ | 4, _ | 5, _ | 6, _ | 7, _ | 8, _ | 9, _ => simp [World.cell?, hB5]
            have hf0 : ∀ i, w5.frozen? ⟨w.heap.size, i, none⟩ = false := fun i => by simp [World.frozen?, hB5]
            clear HB
            have HB5 := hide hB5
            clear hB5
            go_wp2
            refine finish_tally rfl rfl rfl HB5.out ?_
            intro W hWB ho hsW hbW
            refine ⟨⟨s, rfl, ?_⟩, hbW _ _ (Nat.le_refl _) hlow5⟩
            clear hWB HB5
            have k3 : ∀ k, k < s + 4 → w5.heap[k]? = w3.heap[k]? := fun k hk => by rw [hb5.block k (by omega), hb4.block k (by omega)]
            have k2 : ∀ k, k < s + 3 → w5.heap[k]? = w2.heap[k]? := fun k hk => by rw [k3 k (by omega), hP.keep.block k hk]
            have k1 : ∀ k, k < s → w5.heap[k]? = w1.heap[k]? := fun k hk => by rw [k2 k (by omega), hS.keep.block k hk]
            refine ⟨?_, ?_, ?_, ?_, ?_, ?_, ?_, ?_, ?_, ?_, by omega⟩
            · exact hlay.corr.of_block ((ho _ (by omega)).trans (k1 _ (by omega)))
            · exact hlay.faul.of_block ((ho _ (by omega)).trans (k1 _ (by omega)))
            · exact hlay.idx.of_block ((ho _ (by omega)).trans (k1 _ (by omega)))
            · exact ho4.of_block ((ho _ (by omega)).trans (hb5.block _ (by omega)))
            · exact ho5.of_block (ho _ (by omega))
            · intro vs hvs; cases hvs
            · exact hS.pres.of_block ((ho _ (by omega)).trans (k2 _ (by omega)))
            · exact hS.eq.of_block ((ho _ (by omega)).trans (k2 _ (by omega)))
            · exact hS.ref.of_block ((ho _ (by omega)).trans (k2 _ (by omega)))
            · have := hP.sup
              rw [supR_zero] at this
              exact this.of_block ((ho _ (by omega)).trans (k3 _ (by omega)))
          · refine (cloneBools_some p c3 n3 vs w5 (by omega) (by omega) (hrv.keep hlow5)).mono ?_
            rintro e w6 ⟨rfl, ho6, hb6, hs6⟩
            have hlow6 : Below w.heap.size w w6 := hlow5.trans (hb6.mono (by omega))
            rw [hs5] at ho6 hs6
            subst hn3
            have hB5 : w6.heap[w.heap.size]? = some (.cells #[.slice none 0 0, .slice none 0 0, .slice none 0 0, .slice none 0 0, .slice none 0 0, .slice none 0 0, .slice none 0 0, .slice none 0 0, .slice none 0 0, .slice none 0 0] 31 (0, 0)) := by
              rw [hb6.block _ (by omega), hb5.block _ (by omega), hb4.block _ (by omega), HB.out]
            have hc0 : ∀ i, i < 10 → w6.cell? ⟨w.heap.size, i, none⟩ = some (.slice none 0 0) := by
              intro i hi
              match i, hi with
              | 0, _ | 1, _ | 2, _ | 3, _ | 4, _ | 5, _ | 6, _ | 7, _ | 8, _ | 9, _ => simp [World.cell?, hB5]
            have hf0 : ∀ i, w6.frozen? ⟨w.heap.size, i, none⟩ = false := fun i => by simp [World.frozen?, hB5]
            clear HB
            have HB5 := hide hB5
            clear hB5
            go_wp2
            refine finish_tally rfl rfl rfl HB5.out ?_
            intro W hWB ho hsW hbW
            refine ⟨⟨s, rfl, ?_⟩, hbW _ _ (Nat.le_refl _) hlow6⟩
            clear hWB HB5
            have k3 : ∀ k, k < s + 4 → w6.heap[k]? = w3.heap[k]? := fun k hk => by rw [hb6.block k (by omega), hb5.block k (by omega), hb4.block k (by omega)]
            have k2 : ∀ k, k < s + 3 → w6.heap[k]? = w2.heap[k]? := fun k hk => by rw [k3 k (by omega), hP.keep.block k hk]
            have k1 : ∀ k, k < s → w6.heap[k]? = w1.heap[k]? := fun k hk => by rw [k2 k (by omega), hS.keep.block k hk]
            refine ⟨?_, ?_, ?_, ?_, ?_, ?_, ?_, ?_, ?_, ?_, by omega⟩
            · exact hlay.corr.of_block ((ho _ (by omega)).trans (k1 _ (by omega)))
            · exact hlay.faul.of_block ((ho _ (by omega)).trans (k1 _ (by omega)))
            · exact hlay.idx.of_block ((ho _ (by omega)).trans (k1 _ (by omega)))
            · exact ho4.of_block ((ho _ (by omega)).trans ((hb6.block _ (by omega)).trans (hb5.block _ (by omega))))
            · exact ho5.of_block ((ho _ (by omega)).trans (hb6.block _ (by omega)))
            · intro vs' hvs
              cases hvs
              exact ho6.of_block (ho _ (by omega))
            · exact hS.pres.of_block ((ho _ (by omega)).trans (k2 _ (by omega)))
            · exact hS.eq.of_block ((ho _ (by omega)).trans (k2 _ (by omega)))
            · exact hS.ref.of_block ((ho _ (by omega)).trans (k2 _ (by omega)))
            · have := hP.sup
              rw [supR_zero] at this
              exact this.of_block ((ho _ (by omega)).trans (k3 _ (by omega)))
end Go.Proofs.Qxb6604777a
