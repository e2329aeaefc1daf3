/- A proof of 'Rows.LawS4066BSmallSaid': the law's walk out of the contracts of YbulkcfekInts. The frame of the row's step was written by the guide's program for this function and turned to 'Below'. -/
import Derived.Test.YbulkcfekInts
import Derived.ChangeOld
import Derived.ShutString
namespace Go.Proofs.Ybulkcfek.lawS4066BSmall
open Go.ChangeShapes Go.WideShapes Go.ChangeAt Go.RowKit
open Go.Proofs.Ybulkcfek.big
set_option linter.unusedVariables false

theorem own : ownKnob Yba.prog.godebug = none := by kernel_rfl
theorem below_drewN {B : Nat} {a w : World} (h : Below B a w) (n : Nat) : Below B a (w.drewN n) := ⟨h.os, h.tape, h.output, h.size, h.block⟩
theorem later {B : Nat} {w w' : World} (hb : Below B w w') {b o : Nat} {v : Value} (hB : b < B) (h : w.cell? ⟨b, o, none⟩ = some v) : w'.cell? ⟨b, o, none⟩ = some v := (hb.cell (p := ⟨b, o, none⟩) hB).trans h
theorem limbs_short (n : Int) : (limbs n).length ≤ 1 := by unfold limbs; split <;> simp

set_option maxHeartbeats 1600000 in
theorem walk (a0 : Int) (a1 : Int) (w0 : (Lit.int .i64 a0).wf = true) (w1 : (Lit.int .i64 a1).wf = true) (w : World) :
    Calls Yba.prog 4 #[.int .i64 a0, .int .i64 a1] w fun e w' => e = .returned (.bool true) ∧ Below w.heap.size w w' := by
  have hbd := bounds_i64 w0
  obtain ⟨l0, l1⟩ := hbd
  clear w0 w1
  have S : ∃ sg : Int, (sg = if a0 < 0 then -1 else if 0 < a0 then 1 else 0) ∧ ∀ W b, IsInt W b (decide (a0 < 0)) (limbs a0) →
      (Calls Yba.prog 8 #[.pointer (some ⟨b, 0, none⟩)] W fun e w' => e = .returned (.int .i64 sg) ∧ w' = W) ∧
      (Calls Yba.prog 9 #[.pointer (some ⟨b, 0, none⟩)] W fun e w' => e = .returned (.int .i64 a0) ∧ w' = W) := by
    refine ⟨_, rfl, fun W b hi => ?_⟩
    rcases Int.lt_trichotomy a0 0 with hn | hn | hn
    · have hl : limbs a0 = [-a0] := by unfold limbs; rw [if_neg (by omega), show ((a0.natAbs : Nat) : Int) = -a0 by omega]
      rw [hl, decide_eq_true hn] at hi
      rw [if_pos hn]
      have h9 := int64_neg W b (-a0) (by omega) (by omega) hi
      rw [Int.neg_neg] at h9
      exact ⟨sign_some W b true [-a0] (by simp) hi, h9⟩
    · subst hn
      exact ⟨sign_nil W b _ hi, int64_nil W b hi⟩
    · have hl : limbs a0 = [a0] := by unfold limbs; rw [if_neg (by omega), show ((a0.natAbs : Nat) : Int) = a0 by omega]
      rw [hl, decide_eq_false (by omega)] at hi
      rw [if_neg (by omega), if_pos hn]
      exact ⟨sign_some W b false [a0] (by simp) hi, int64_pos W b a0 (by omega) l1 hi⟩
  obtain ⟨sg, hsg, S⟩ := S
  have SS : Hid _ := S
  clear S
  rcases Int.lt_trichotomy a0 0 with hn | hn | hn
  · rw [if_pos hn] at hsg
    subst hsg
    go_enter Yba.func4, Yba.ntmps4
    go_wp2_with fail
    refine (bigInt_any a0 a1 l0 l1 _).mono ?_
    rintro e wa ⟨b, rfl, hb, hi, hbel⟩
    simp at hb hbel
    have x0 : wa.cell? ⟨w.heap.size, 0, none⟩ = some (.int .i64 a0) := later hbel (by omega) (by simp)
    have x1 : wa.cell? ⟨w.heap.size, 1, none⟩ = some (.pointer none) := later hbel (by omega) (by simp)
    have x2 : wa.cell? ⟨w.heap.size, 2, none⟩ = some (.int .i64 a1) := later hbel (by omega) (by simp)
    have HI : Hid (IsInt wa b (decide (a0 < 0)) (limbs a0)) := hi
    clear hi
    go_wp2_with fail
    refine (SS.out _ b HI.out).1.mono ?_
    rintro e w2 ⟨rfl, rfl⟩
    go_wp2_with fail
    refine (SS.out _ b HI.out).2.mono ?_
    rintro e w3 ⟨rfl, rfl⟩
    go_wp2_with fail
    refine (bitLenI _ b _ _ HI.out (limbs_short _)).mono ?_
    rintro e w4 ⟨k, hk0, hk1, rfl, rfl⟩
    go_wp2_with fail
    refine (newInt_any a0 l0 l1 _).mono ?_
    rintro e w5 ⟨b', rfl, hb', hi', hbel'⟩
    have y0 := later hbel' (lt_of_cell x0) x0
    have y1 := later hbel' (lt_of_cell x1) x1
    have y2 := later hbel' (lt_of_cell x2) x2
    have hlt := HI.out.lt
    have hi2 := HI.out.below hbel'
    have HB : Hid (Below w.heap.size w w5) := (((Below.refl _ _).alloc (Nat.le_refl _) _).trans (hbel.mono (by omega))).trans (hbel'.mono (by have := hbel.size; simp at this; omega))
    have H1 : Hid (IsInt w5 b' (decide (a0 < 0)) (limbs a0)) := hi'
    have H2 : Hid (IsInt w5 b (decide (a0 < 0)) (limbs a0)) := hi2
    clear hi' hi2 x0 x1 x2 hbel hbel' HI
    go_wp2_with fail
    refine (cmp_any _ b b' _ _ (Nat.le_trans (limbs_short a0) (by omega)) (by omega) H2.out H1.out).mono ?_
    rintro e w6 ⟨rfl, k6, rfl⟩
    go_wp2
    go_ret
    exact ⟨rfl, below_drewN HB.out _⟩
  · subst hn
    obtain rfl : sg = 0 := by simpa using hsg
    clear hsg
    go_enter Yba.func4, Yba.ntmps4
    go_wp2_with fail
    refine (bigInt_any 0 a1 l0 l1 _).mono ?_
    rintro e wa ⟨b, rfl, hb, hi, hbel⟩
    simp at hb hbel
    have x0 : wa.cell? ⟨w.heap.size, 0, none⟩ = some (.int .i64 0) := later hbel (by omega) (by simp)
    have x1 : wa.cell? ⟨w.heap.size, 1, none⟩ = some (.pointer none) := later hbel (by omega) (by simp)
    have x2 : wa.cell? ⟨w.heap.size, 2, none⟩ = some (.int .i64 a1) := later hbel (by omega) (by simp)
    have HI : Hid (IsInt wa b (decide (0 < 0)) (limbs 0)) := hi
    clear hi
    go_wp2_with fail
    refine (SS.out _ b HI.out).1.mono ?_
    rintro e w2 ⟨rfl, rfl⟩
    go_wp2_with fail
    refine (SS.out _ b HI.out).2.mono ?_
    rintro e w3 ⟨rfl, rfl⟩
    go_wp2_with fail
    refine (bitLenI _ b _ _ HI.out (limbs_short _)).mono ?_
    rintro e w4 ⟨k, hk0, hk1, rfl, rfl⟩
    go_wp2_with fail
    refine (newInt_any 0 l0 l1 _).mono ?_
    rintro e w5 ⟨b', rfl, hb', hi', hbel'⟩
    have y0 := later hbel' (lt_of_cell x0) x0
    have y1 := later hbel' (lt_of_cell x1) x1
    have y2 := later hbel' (lt_of_cell x2) x2
    have hlt := HI.out.lt
    have hi2 := HI.out.below hbel'
    have HB : Hid (Below w.heap.size w w5) := (((Below.refl _ _).alloc (Nat.le_refl _) _).trans (hbel.mono (by omega))).trans (hbel'.mono (by have := hbel.size; simp at this; omega))
    have H1 : Hid (IsInt w5 b' (decide (0 < 0)) (limbs 0)) := hi'
    have H2 : Hid (IsInt w5 b (decide (0 < 0)) (limbs 0)) := hi2
    clear hi' hi2 x0 x1 x2 hbel hbel' HI
    go_wp2_with fail
    refine (cmp_any _ b b' _ _ (Nat.le_trans (limbs_short 0) (by omega)) (by omega) H2.out H1.out).mono ?_
    rintro e w6 ⟨rfl, k6, rfl⟩
    go_wp2
    go_ret
    exact ⟨rfl, below_drewN HB.out _⟩
  · rw [if_neg (by omega), if_pos hn] at hsg
    subst hsg
    go_enter Yba.func4, Yba.ntmps4
    go_wp2_with fail
    refine (bigInt_any a0 a1 l0 l1 _).mono ?_
    rintro e wa ⟨b, rfl, hb, hi, hbel⟩
    simp at hb hbel
    have x0 : wa.cell? ⟨w.heap.size, 0, none⟩ = some (.int .i64 a0) := later hbel (by omega) (by simp)
    have x1 : wa.cell? ⟨w.heap.size, 1, none⟩ = some (.pointer none) := later hbel (by omega) (by simp)
    have x2 : wa.cell? ⟨w.heap.size, 2, none⟩ = some (.int .i64 a1) := later hbel (by omega) (by simp)
    have HI : Hid (IsInt wa b (decide (a0 < 0)) (limbs a0)) := hi
    clear hi
    go_wp2_with fail
    refine (SS.out _ b HI.out).1.mono ?_
    rintro e w2 ⟨rfl, rfl⟩
    go_wp2_with fail
    refine (SS.out _ b HI.out).2.mono ?_
    rintro e w3 ⟨rfl, rfl⟩
    go_wp2_with fail
    refine (bitLenI _ b _ _ HI.out (limbs_short _)).mono ?_
    rintro e w4 ⟨k, hk0, hk1, rfl, rfl⟩
    go_wp2_with fail
    refine (newInt_any a0 l0 l1 _).mono ?_
    rintro e w5 ⟨b', rfl, hb', hi', hbel'⟩
    have y0 := later hbel' (lt_of_cell x0) x0
    have y1 := later hbel' (lt_of_cell x1) x1
    have y2 := later hbel' (lt_of_cell x2) x2
    have hlt := HI.out.lt
    have hi2 := HI.out.below hbel'
    have HB : Hid (Below w.heap.size w w5) := (((Below.refl _ _).alloc (Nat.le_refl _) _).trans (hbel.mono (by omega))).trans (hbel'.mono (by have := hbel.size; simp at this; omega))
    have H1 : Hid (IsInt w5 b' (decide (a0 < 0)) (limbs a0)) := hi'
    have H2 : Hid (IsInt w5 b (decide (a0 < 0)) (limbs a0)) := hi2
    clear hi' hi2 x0 x1 x2 hbel hbel' HI
    go_wp2_with fail
    refine (cmp_any _ b b' _ _ (Nat.le_trans (limbs_short a0) (by omega)) (by omega) H2.out H1.out).mono ?_
    rintro e w6 ⟨rfl, k6, rfl⟩
    go_wp2
    go_ret
    exact ⟨rfl, below_drewN HB.out _⟩

/-! ### THE ROW's STEP: WRITTEN OUT: LEAVE IT -/
set_option maxRecDepth 100000 in
theorem lifted (os : Os) (started : os.Started) (H : Type) (enc : TypeId × Value → H) :
    ReturnsInHanded {} Yba.checked os 4 .any (Rows.lawS4066BSmallSpec.pre6 enc Yba.prog Yba.f4 Rows.lawS4066BSmallRow.domain false) (Rows.lawS4066BSmallSpec.post enc Yba.prog Yba.f4 false true false false) := by
  refine returnsInHanded_of_change (C := Yba.checked) own started (by kernel_rfl) Yba.func4
    (ChangeSpec.witness6 (enc := enc) (C := Yba.checked) false ⟨#[], #[.int .i64 0, .int .i64 0], []⟩ 8 (by kernel_rfl) (by kernel_rfl) (by kernel_rfl) (by kernel_rfl)) ?_
  intro W base args ds gs before hval0 hW hcnd _
  have hval : ∀ (j : Nat) t v, Yba.f4.params[j]? = some t → args[j]? = some v → Value.okWide Yba.prog W .any base t v := hval0
  have hW' := hW
  obtain ⟨p, q, hA0, hV, rfl, hfz, hnd⟩ := hW
  have hA : DataW.TrodAll enc Yba.prog W 0 (fun _ => true) true Yba.f4.params.toList args.toList ds p := hA0
  rw [Yba.params4] at hA hval
  obtain ⟨v0, vs0, d0, ds0, p0, q0, hargs, rfl, rfl, h0, r0⟩ := trodAll_cons hA
  obtain ⟨v1, vs1, d1, ds1, p1, q1, rfl, rfl, rfl, h1, r1⟩ := trodAll_cons r0
  obtain ⟨rfl, rfl, rfl⟩ := trodAll_nil r1
  obtain rfl : args = #[v0, v1] := by cases args; simp_all
  obtain ⟨rfl, rfl⟩ := trodVars_none hV
  obtain ⟨a0, rfl, rfl, rfl, w0⟩ := open_int Yba.underlying2 (hval 0 2 v0 rfl rfl) h0
  obtain ⟨a1, rfl, rfl, rfl, w1⟩ := open_int Yba.underlying3 (hval 1 3 v1 rfl rfl) h1
  clear hA0 hval0
  simp only [List.append_nil] at hW'
  refine (walk a0 a1 w0 w1 W).mono fun e W' ⟨he, hg⟩ => ?_
  subst he
  exact ⟨_, rfl, _, _, _, [], [], [], hW', trodAll_mk1 (shut_bool Yba.underlying4 _), (trodAll_cons_mk (shut_int Yba.underlying2 w0) (trodAll_cons_mk (shut_int Yba.underlying3 w1) trodAll_mk0)), rfl, hg.frame _, fun h => by cases h⟩

theorem over : Rows.lawS4066BSmallRow.holds Yba.pinned (OpenSpec.ofChange Rows.lawS4066BSmallSpec) :=
  OpenClaim.holds_of_wide 4 Yba.f4 rfl rfl rfl rfl rfl rfl rfl ⟨rfl, rfl, rfl, rfl, rfl⟩ rfl rfl rfl rfl rfl (by kernel_rfl) Yba.func4 (by kernel_rfl)
    (of_decide_eq_true (by kernel_rfl)) (by unfold Func.isWrapper; first | (rw [if_pos (by decide +kernel)]; kernel_rfl) | (rw [if_neg (by decide +kernel)]; exact ⟨rfl, rfl⟩))
    (fun os started H enc _ => lifted os started H enc)

/-- ████ THE STATEMENT ████ -/
theorem proved : Rows.LawS4066BSmallSaid :=
  over
end Go.Proofs.Ybulkcfek.lawS4066BSmall
