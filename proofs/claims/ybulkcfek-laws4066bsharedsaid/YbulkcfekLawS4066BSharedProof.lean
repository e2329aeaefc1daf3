/- A proof of 'Rows.LawS4066BSharedSaid': the law's walk out of the contracts of YbulkcfekIntAny. The frame of the row's step was written by the guide's program for this function and turned to 'Below'. -/
import Derived.Test.YbulkcfekIntAny
import Derived.ChangeOld
import Derived.ShutString
namespace Go.Proofs.Ybulkcfek.lawS4066BShared
open Go.ChangeShapes Go.WideShapes Go.ChangeAt Go.RowKit
open Go.Proofs.Ybulkcfek.big
set_option linter.unusedVariables false
theorem own : ownKnob Yba.prog.godebug = none := by kernel_rfl
theorem below_grown {B : Nat} {w w' : World} {r : Nat} (h : w.grownBy w' (some r)) (hB : B ≤ w.heap.size) (hr : B ≤ r) : Below B w w' := (Below.refl _ _).grown h hB (fun k e => by cases e; exact hr)
theorem later {B : Nat} {w w' : World} (hb : Below B w w') {b o : Nat} {v : Value} (hB : b < B) (h : w.cell? ⟨b, o, none⟩ = some v) : w'.cell? ⟨b, o, none⟩ = some v := (hb.cell (p := ⟨b, o, none⟩) hB).trans h
set_option maxHeartbeats 1600000 in
theorem walk (a0 : Int) (a1 : Int) (a2 : Int) (a3 : Int) (w0 : (Lit.int .i64 a0).wf = true) (w1 : (Lit.int .u64 a1).wf = true) (w2 : (Lit.int .i64 a2).wf = true) (w3 : (Lit.int .i64 a3).wf = true) (w : World) :
    Calls Yba.prog 5 #[.int .i64 a0, .int .u64 a1, .int .i64 a2, .int .i64 a3] w fun e w' => e = .returned (.bool true) ∧ Below w.heap.size w w' := by
  obtain ⟨l0, l1⟩ := bounds_i64 w0
  obtain ⟨l2, l3⟩ := bounds_u64 w1
  clear w0 w1 w2 w3
  go_enter Yba.func5, Yba.ntmps5
  go_wp2_with fail
  refine (newInt_any a0 l0 l1 _).mono ?_
  rintro e wa ⟨bx, rfl, hbx, hix, hba⟩
  simp at hbx hba
  have hz : wa.heap[w.heap.size]? = some (.cells #[.bool false, .slice none 0 0] 46 (0, 0)) := (hba.block _ (by omega)).trans (heap_new rfl)
  have Bel1 : Below w.heap.size w wa := ((Below.refl _ _).alloc (Nat.le_refl _) _).trans (hba.mono (by omega))
  have s1 := Bel1.size
  have s1' := hba.size
  simp at s1'
  clear hba
  go_wp2_with fail
  refine (Lsh_any w.heap.size a0 l0 l1 w.heap.size bx wa s1 (by omega) hz hix).mono ?_
  rintro e wb ⟨rfl, hbig, hg⟩
  have Bel2 : Below w.heap.size w wb := Bel1.trans (below_grown hg s1 (Nat.le_refl _))
  have s2 := hg.size
  clear hg hz hix Bel1
  go_wp2_with fail
  have hy0 : (wb.alloc (.cells #[.bool false, .slice none 0 0] 46)).heap[wb.heap.size]? = some (.cells #[.bool false, .slice none 0 0] 46 (0, 0)) := heap_new rfl
  refine (SetU_any a1 l2 l3 wb.heap.size _ hy0).mono ?_
  rintro e wc ⟨rfl, hsm, hg⟩
  have keep2 : ∀ k, k < wb.heap.size → wc.heap[k]? = wb.heap[k]? := fun k hk => (hg.block k (by simp; omega) (by intro e; cases e; omega)).trans (heap_old hk)
  have hbig2 := hbig.kept keep2
  have s3 := hg.size
  simp at s3
  have Bel3 : Below w.heap.size w wc := Bel2.trans (((Below.refl _ _).alloc (by omega) _).trans (below_grown hg (by simp; omega) (by omega)))
  clear hg keep2 hbig hy0 Bel2
  go_wp2_with fail
  refine (Add_any w.heap.size w.heap.size wb.heap.size wc (Nat.le_refl _) (by omega) hbig2 hsm).mono ?_
  rintro e wd ⟨rfl, ⟨sg, zs, hlen, hint⟩, hbd⟩
  have Bel4 : Below w.heap.size w wd := Bel3.trans hbd
  have s4 := hbd.size
  clear hbd Bel3 hbig2 hsm
  have hbl := hint.lt
  go_wp2_with fail
  have hk0 : (wd.alloc (.cells #[.bool false, .slice none 0 0] 46)).heap[wd.heap.size]? = some (.cells #[.bool false, .slice none 0 0] 46 (0, 0)) := heap_new rfl
  refine (Set_any wd.heap.size w.heap.size sg zs _ hlen (by omega) hk0 (hint.below ((Below.refl _ _).alloc (Nat.le_refl _) _))).mono ?_
  rintro e we ⟨rfl, hint2, hg⟩
  have keep5 : Below wd.heap.size wd we := ((Below.refl _ _).alloc (Nat.le_refl _) _).trans (below_grown hg (by simp) (Nat.le_refl _))
  have hint1 := hint.below keep5
  have s5 := keep5.size
  have Bel5 : Below w.heap.size w we := Bel4.trans (keep5.mono (by omega))
  clear hg hint keep5 Bel4 hk0
  have hq := neq_self ⟨w.heap.size, 0, none⟩
  go_wp2_with fail
  refine (bigInt_kept a2 a3 w.heap.size _).mono ?_
  rintro e wf ⟨rfl, hbf⟩
  simp at hbf
  have x0 : wf.cell? ⟨we.heap.size, 0, none⟩ = some (.int .i64 a2) := later hbf (by omega) (by simp)
  have x2 : wf.cell? ⟨we.heap.size, 2, none⟩ = some (.int .i64 a3) := later hbf (by omega) (by simp)
  have Bel6 : Below we.heap.size we wf := ((Below.refl _ _).alloc (Nat.le_refl _) _).trans (hbf.mono (by omega))
  have i1 := hint1.below Bel6
  have i2 := hint2.below Bel6
  have Bel7 : Below w.heap.size w wf := Bel5.trans (Bel6.mono (by omega))
  clear hint1 hint2 Bel6 Bel5 hbf
  go_wp2_with fail
  refine (cmp_any _ w.heap.size wd.heap.size sg zs (by omega) (by omega) i1 i2).mono ?_
  rintro e w6 ⟨rfl, k6, rfl⟩
  clear i1 i2
  go_wp2
  go_ret
  exact ⟨rfl, below_dn Bel7 _⟩
/-! ### THE ROW's STEP: WRITTEN OUT: LEAVE IT -/
set_option maxRecDepth 100000 in
theorem lifted (os : Os) (started : os.Started) (H : Type) (enc : TypeId × Value → H) :
    ReturnsInHanded {} Yba.checked os 5 .any (Rows.lawS4066BSharedSpec.pre6 enc Yba.prog Yba.f5 Rows.lawS4066BSharedRow.domain false) (Rows.lawS4066BSharedSpec.post enc Yba.prog Yba.f5 false true false false) := by
  refine returnsInHanded_of_change (C := Yba.checked) own started (by kernel_rfl) Yba.func5
    (ChangeSpec.witness6 (enc := enc) (C := Yba.checked) false ⟨#[], #[.int .i64 0, .int .u64 0, .int .i64 0, .int .i64 0], []⟩ 8 (by kernel_rfl) (by kernel_rfl) (by kernel_rfl) (by kernel_rfl)) ?_
  intro W base args ds gs before hval0 hW hcnd _
  have hval : ∀ (j : Nat) t v, Yba.f5.params[j]? = some t → args[j]? = some v → Value.okWide Yba.prog W .any base t v := hval0
  have hW' := hW
  obtain ⟨p, q, hA0, hV, rfl, hfz, hnd⟩ := hW
  have hA : DataW.TrodAll enc Yba.prog W 0 (fun _ => true) true Yba.f5.params.toList args.toList ds p := hA0
  rw [Yba.params5] at hA hval
  obtain ⟨v0, vs0, d0, ds0, p0, q0, hargs, rfl, rfl, h0, r0⟩ := trodAll_cons hA
  obtain ⟨v1, vs1, d1, ds1, p1, q1, rfl, rfl, rfl, h1, r1⟩ := trodAll_cons r0
  obtain ⟨v2, vs2, d2, ds2, p2, q2, rfl, rfl, rfl, h2, r2⟩ := trodAll_cons r1
  obtain ⟨v3, vs3, d3, ds3, p3, q3, rfl, rfl, rfl, h3, r3⟩ := trodAll_cons r2
  obtain ⟨rfl, rfl, rfl⟩ := trodAll_nil r3
  obtain rfl : args = #[v0, v1, v2, v3] := by cases args; simp_all
  obtain ⟨rfl, rfl⟩ := trodVars_none hV
  obtain ⟨a0, rfl, rfl, rfl, w0⟩ := open_int Yba.underlying2 (hval 0 2 v0 rfl rfl) h0
  obtain ⟨a1, rfl, rfl, rfl, w1⟩ := open_int Yba.underlying42 (hval 1 42 v1 rfl rfl) h1
  obtain ⟨a2, rfl, rfl, rfl, w2⟩ := open_int Yba.underlying2 (hval 2 2 v2 rfl rfl) h2
  obtain ⟨a3, rfl, rfl, rfl, w3⟩ := open_int Yba.underlying3 (hval 3 3 v3 rfl rfl) h3
  clear hA0 hval0
  simp only [List.append_nil] at hW'
  refine (walk a0 a1 a2 a3 w0 w1 w2 w3 W).mono fun e W' ⟨he, hg⟩ => ?_
  subst he
  exact ⟨_, rfl, _, _, _, [], [], [], hW', trodAll_mk1 (shut_bool Yba.underlying4 _), (trodAll_cons_mk (shut_int Yba.underlying2 w0) (trodAll_cons_mk (shut_int Yba.underlying42 w1) (trodAll_cons_mk (shut_int Yba.underlying2 w2) (trodAll_cons_mk (shut_int Yba.underlying3 w3) trodAll_mk0)))), rfl, hg.frame _, fun h => by cases h⟩

theorem over : Rows.lawS4066BSharedRow.holds Yba.pinned (OpenSpec.ofChange Rows.lawS4066BSharedSpec) :=
  OpenClaim.holds_of_wide 5 Yba.f5 rfl rfl rfl rfl rfl rfl rfl ⟨rfl, rfl, rfl, rfl, rfl⟩ rfl rfl rfl rfl rfl (by kernel_rfl) Yba.func5 (by kernel_rfl)
    (of_decide_eq_true (by kernel_rfl)) (by unfold Func.isWrapper; first | (rw [if_pos (by decide +kernel)]; kernel_rfl) | (rw [if_neg (by decide +kernel)]; exact ⟨rfl, rfl⟩))
    (fun os started H enc _ => lifted os started H enc)

/-- ████ THE STATEMENT ████ -/
theorem proved : Rows.LawS4066BSharedSaid :=
  over
end Go.Proofs.Ybulkcfek.lawS4066BShared
