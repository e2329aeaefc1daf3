/- A proof of 'Rows.LawS4061BTrimSaid'. The frame of the row's step was written by the guide's program for this function. -/
import Derived.Test.YbulkcfbsCopy
import Derived.ChangeOld
import Derived.ShutString
namespace Go.Proofs.Ybulkcfbs.lawS4061BTrim
open Go.ChangeShapes Go.WideShapes Go.ChangeAt Go.RowKit
open Go.Proofs.Ybulkcfbs.items
set_option linter.unusedVariables false
theorem own : ownKnob Yba.prog.godebug = none := by kernel_rfl
theorem laidOut : laidOutB Yba.prog = true := by kernel_rfl
def IsRow (k : IntKind) (w : World) (a : Option Addr) (len cap : Nat) (zs : List Int) : Prop :=
  (a = none ∧ len = 0 ∧ cap = 0 ∧ zs = []) ∨
  ∃ x, a = some x ∧ len ≤ cap ∧ cap ≤ maxLen ∧ zs.length = cap ∧ (∀ i, i < zs.length → w.cell? (x.add i) = some (.int k (zs.getD i 0))) ∧ ∀ n ∈ zs, (Lit.int k n).wf = true
theorem below_grown {B : Nat} {w w' : World} {r : Option Nat} (h : w.grownBy w' r) (hB : B ≤ w.heap.size) (hr : ∀ k, r = some k → B ≤ k) : Below B w w' := (Below.refl _ _).grown h hB hr
/-- The callees' contracts, at a length under another name. -/
theorem rev_n (xs : List items.Item) (n : Nat) (hl : xs.length = n) (ad : Addr) (c : Nat) (w : World) (hm : n ≤ 1024) (hx : Reads w (some ad) c xs) :
    Calls Yba.prog 6 #[.slice (some ad) n c] w fun e w' => ∃ g c', e = .returned (.slice (some ⟨g, 0, none⟩) n c') ∧ Reads w' (some ⟨g, 0, none⟩) c' xs.reverse ∧ Below w.heap.size w w' := by
  subst hl
  refine (reversed_any xs (some ad) c w (fun h => by cases h) hm hx).mono ?_
  rintro e w' ⟨v, rfl, ho, hv, hb⟩
  obtain ⟨a, c', rfl, -, hr⟩ := reads_of_owns ho
  rcases ho.2 with ⟨h1, h2⟩ | ⟨g, cap, cur, h1, _⟩
  · have := hv.1 h1
    simp at this
  · simp at h1
    obtain ⟨rfl, rfl⟩ := h1
    exact ⟨g, c', rfl, hr, hb⟩
theorem trim_n (xs : List items.Item) (n : Nat) (hl : xs.length = n) (ad : Addr) (c : Nat) (w : World) (hx : Reads w (some ad) c xs) :
    Calls Yba.prog 8 #[.slice (some ad) n c] w fun e w' => ∃ ad' c', e = .returned (.slice (some ad') (trim xs).length c') ∧ Reads w (some ad') c' (trim xs) ∧ w' = w := by
  subst hl
  exact trim_any xs ad c w hx
theorem eq_n (xs : List items.Item) (n : Nat) (hl : xs.length = n) (a b : Option Addr) (c d : Nat) (w : World) (hx : Reads w a c xs) (hy : Reads w b d xs) :
    Calls Yba.prog 7 #[.slice a n c, .slice b n d] w fun e w' => e = .returned (.bool true) ∧ ∃ q, w' = w.drewN q := by
  subst hl
  exact eq_any xs a b c d w hx hy
set_option maxHeartbeats 1600000 in
theorem walk_core (a0 : Option Addr) (n c : Nat) (zs : List Int) (w : World) (hn : n ≤ 1024) (hc : n ≤ 9223372036854775807)
    (hz : ∀ i, i < n → ∃ x, a0 = some x ∧ w.cell? (x.add i) = some (.int .i8 (zs.getD i 0)) ∧ (-128 ≤ zs.getD i 0 ∧ zs.getD i 0 ≤ 127) ∧ ∃ b o, x = ⟨b, o, none⟩) :
    Calls Yba.prog 4 #[.slice a0 n c] w fun e w' => e = .returned (.bool true) ∧ Below w.heap.size w w' := by
  obtain ⟨i0, hi, hz0, hz1, hz2⟩ := info_parts info30
  have HZ : Hid (∀ i, i < n → ∃ x, a0 = some x ∧ w.cell? (x.add i) = some (.int .i8 (zs.getD i 0)) ∧ (-128 ≤ zs.getD i 0 ∧ zs.getD i 0 ≤ 127) ∧ ∃ b o, x = ⟨b, o, none⟩) := hz
  clear hz
  go_enter Yba.func4, Yba.ntmps4
  go_wp2_with (at_make; refine wpList_make_full _ rfl _ _ 23 rfl w.heap.size 30 i0 _ 5 Yba.underlying23 hi hz0 hz1 .i64 .i64 _ _ n rfl rfl rfl rfl (by rw [hz2]; omega) (by unfold maxLen; omega) (Nat.le_refl _) ?_; intro w1 hown1 hgrow1)
  have HO1 : Hid (w1.ownsRow w.heap.size 30 5 (.slice (some ⟨w.heap.size, 0, none⟩) n n) n (flat (List.replicate n zeroItem))) := by rw [flat_replicate]; exact hown1
  have HB1 : Hid (Below w.heap.size w w1) := below_grown hgrow1 (Nat.le_refl _) (fun k e => by cases e)
  clear hown1 hgrow1
  go_wp2
  go_loopw [4] (fun i wr => ∃ (k : Nat) (ys : List items.Item), k ≤ n ∧ i = .int .i64 k ∧ wr.ownsRow w.heap.size 30 5 (.slice (some ⟨w.heap.size, 0, none⟩) n n) n (flat ys) ∧ Below w.heap.size w wr) (fun i _ => n - (intOf i).toNat)
  case atStart => exact ⟨0, _, by omega, rfl, HO1.out, HB1.out⟩
  case round =>
    obtain ⟨k, ys, hk, rfl, hown, hbel⟩ := hrel
    have hl : ys.length = n := by have := hown.1; rw [flat_length] at this; omega
    by_cases hlt : k < n
    · obtain ⟨x, rfl, hcell, ⟨b1, b2⟩, b, o, rfl⟩ := HZ.out k hlt
      have hcw : wr.cell? ⟨b, o + k, none⟩ = some (.int .i8 (zs.getD k 0)) := by
        rw [show (⟨b, o, none⟩ : Addr).add k = ⟨b, o + k, none⟩ by simp [Addr.add]] at hcell
        exact (hbel.cell (p := ⟨b, o + k, none⟩) (lt_of_cell hcell)).trans hcell
      clear hcell
      obtain ⟨z, hzz⟩ : ∃ z, z = zs.getD k 0 := ⟨_, rfl⟩
      rw [← hzz] at hcw b1 b2
      clear hzz
      have H : Hid (∀ x : items.Item, (put5 wr w.heap.size (k * 5) x).ownsRow w.heap.size 30 5 (.slice (some ⟨w.heap.size, 0, none⟩) n n) n (flat (ys.set k x)) ∧ Below w.heap.size w (put5 wr w.heap.size (k * 5) x)) := fun x =>
        ⟨owns_put hown x (by omega), below_put hbel (Nat.le_refl _) x⟩
      have cs : ∀ j, j < 5 → ∃ v, wr.cell? ⟨w.heap.size, k * 5 + j, none⟩ = some v := fun j hj => by
        rw [hown.cellAt _ (by omega), List.getElem?_eq_getElem (by rw [flat_length]; omega)]
        exact ⟨_, rfl⟩
      obtain ⟨v0, c0⟩ := cs 0 (by omega)
      obtain ⟨v1, c1⟩ := cs 1 (by omega)
      obtain ⟨v2, c2⟩ := cs 2 (by omega)
      obtain ⟨v3, c3⟩ := cs 3 (by omega)
      obtain ⟨v4, c4⟩ := cs 4 (by omega)
      rw [Nat.add_zero] at c0
      have fz : ∀ j, wr.frozen? ⟨w.heap.size, j, none⟩ = false := fun j => hown.frozenAt j
      have HH : Hid (∀ m : Int, ((((((wr.setCell ⟨w.heap.size, k * 5, none⟩ (.int .i64 m)).setCell ⟨w.heap.size, k * 5 + 1, none⟩ (.int .i64 0)).setCell ⟨w.heap.size, k * 5 + 2, none⟩ (.string ⟨#[]⟩)).setCell ⟨w.heap.size, k * 5 + 3, none⟩ (.int .i64 k)).setCell ⟨w.heap.size, k * 5 + 4, none⟩ (.int .i64 0)).ownsRow w.heap.size 30 5 (.slice (some ⟨w.heap.size, 0, none⟩) n n) n (flat (ys.set k ⟨m, 0, ⟨#[]⟩, k, 0⟩))) ∧
          Below w.heap.size w (((((wr.setCell ⟨w.heap.size, k * 5, none⟩ (.int .i64 m)).setCell ⟨w.heap.size, k * 5 + 1, none⟩ (.int .i64 0)).setCell ⟨w.heap.size, k * 5 + 2, none⟩ (.string ⟨#[]⟩)).setCell ⟨w.heap.size, k * 5 + 3, none⟩ (.int .i64 k)).setCell ⟨w.heap.size, k * 5 + 4, none⟩ (.int .i64 0))) := fun m => H.out ⟨m, 0, ⟨#[]⟩, k, 0⟩
      clear cs hown hbel hl H
      go_wp2
      all_goals
        go_roundw
        case rel => exact ⟨k + 1, _, by omega, by go_num, (HH.out _).1, (HH.out _).2⟩
        case measure => simp [intOf]; omega
    · clear HO1 HB1 HZ
      have hs := hbel.size
      obtain ⟨a', c', hv, -, hr⟩ := reads_of_owns hown
      simp at hv
      obtain ⟨rfl, rfl⟩ := hv
      have HR : Hid (Reads wr (some ⟨w.heap.size, 0, none⟩) n ys) := hr
      have HB : Hid (Below w.heap.size w wr) := hbel
      have HL : Hid (ys.length = n) := hl
      clear hr hbel hown hl
      go_wp2_with (at_make; refine wpList_make_full _ rfl _ _ 23 rfl wr.heap.size 30 i0 _ 5 Yba.underlying23 hi hz0 hz1 .i64 .i64 _ _ n rfl rfl rfl rfl (by rw [hz2]; omega) (by unfold maxLen; omega) (Nat.le_refl _) ?_; intro w2 hown2 hgrow2; obtain ⟨w3, hcp, hown3, hgrow3⟩ := copy_owned w2 wr.heap.size wr.heap.size n n ⟨w.heap.size, 0, none⟩ ys hown2 HL.out.symm (src_of_reads (HR.out.below (below_grown hgrow2 (Nat.le_refl _) (fun k e => by cases e)))))
      have HR3 : Hid (Reads w3 (some ⟨w.heap.size, 0, none⟩) n ys) := HR.out.below (((Below.refl _ _).grown hgrow2 (Nat.le_refl _) (fun k e => by cases e)).trans (below_grown hgrow3 hgrow2.size (fun k e => by cases e; exact Nat.le_refl _)))
      have HS3 : Hid (Reads w3 (some ⟨wr.heap.size, 0, none⟩) n ys) := by
        obtain ⟨a', c', hv, -, hr⟩ := reads_of_owns hown3
        simp at hv
        obtain ⟨rfl, rfl⟩ := hv
        exact hr
      have HB3 : Hid (Below w.heap.size w w3) := HB.out.trans (((below_grown hgrow2 hs (fun k e => by cases e)).trans (below_grown hgrow3 (Nat.le_trans hs hgrow2.size) (fun k e => by cases e; exact hs))))
      clear HR HB hown2 hgrow2 hown3 hgrow3 hcp
      refine (rev_n ys n HL.out _ _ w3 hn HR3.out).mono ?_
      rintro e w4 ⟨g1, c1, rfl, r1, bl1⟩
      have R1 : Hid (Reads w4 (some ⟨g1, 0, none⟩) c1 ys.reverse) := r1
      have HR4 : Hid (Reads w4 (some ⟨w.heap.size, 0, none⟩) n ys) := HR3.out.below bl1
      have HS4 : Hid (Reads w4 (some ⟨wr.heap.size, 0, none⟩) n ys) := HS3.out.below bl1
      have HB4 : Hid (Below w.heap.size w w4) := HB3.out.trans (bl1.mono HB3.out.size)
      clear HR3 HS3 HB3 r1 bl1
      go_wp2_with fail
      refine (trim_n ys.reverse n (by rw [List.length_reverse]; exact HL.out) _ _ w4 R1.out).mono ?_
      rintro e w4' ⟨ad2, c2, rfl, r2, hw⟩
      obtain rfl := hw.symm
      have R2 : Hid (Reads w4 (some ad2) c2 (trim ys.reverse)) := r2
      clear r2 R1
      go_wp2_with fail
      refine (trim_n ys n HL.out _ _ w4 HR4.out).mono ?_
      rintro e w4' ⟨ad3, c3, rfl, r3, hw⟩
      obtain rfl := hw.symm
      have R3 : Hid (Reads w4 (some ad3) c3 (trim ys)) := r3
      clear r3
      go_wp2_with fail
      refine (rev_n (trim ys) _ rfl _ _ w4 (Nat.le_trans (trim_length ys) (by rw [HL.out]; exact hn)) R3.out).mono ?_
      rintro e w5 ⟨g4, c4, rfl, r4, bl4⟩
      have R4 : Hid (Reads w5 (some ⟨g4, 0, none⟩) c4 (trim ys).reverse) := r4
      have R2' : Hid (Reads w5 (some ad2) c2 (trim ys).reverse) := by
        have := R2.out.below bl4
        rw [trim_reverse] at this
        exact this
      have HR5 : Hid (Reads w5 (some ⟨w.heap.size, 0, none⟩) n ys) := HR4.out.below bl4
      have HS5 : Hid (Reads w5 (some ⟨wr.heap.size, 0, none⟩) n ys) := HS4.out.below bl4
      have HB5 : Hid (Below w.heap.size w w5) := HB4.out.trans (bl4.mono HB4.out.size)
      clear HR4 HS4 HB4 r4 bl4 R2 R3
      have hlen : (trim ys.reverse).length = (trim ys).length := by rw [trim_reverse, List.length_reverse]
      rw [hlen]
      clear hlen
      go_wp2_with fail
      refine (eq_n (trim ys).reverse _ (List.length_reverse) _ _ _ _ w5 R2'.out R4.out).mono ?_
      rintro e w6 ⟨rfl, q6, rfl⟩
      clear R2' R4
      go_wp2_with fail
      refine (rev_n ys n HL.out _ _ _ hn (HR5.out.drewN q6)).mono ?_
      rintro e w7 ⟨g7, c7, rfl, r7, bl7⟩
      have bl7' : Below w5.heap.size w5 w7 := ⟨bl7.os, bl7.tape, bl7.output, bl7.size, bl7.block⟩
      have R7 : Hid (Reads w7 (some ⟨g7, 0, none⟩) c7 ys.reverse) := r7
      have HR7 : Hid (Reads w7 (some ⟨w.heap.size, 0, none⟩) n ys) := HR5.out.below bl7'
      have HS7 : Hid (Reads w7 (some ⟨wr.heap.size, 0, none⟩) n ys) := HS5.out.below bl7'
      have HB7 : Hid (Below w.heap.size w w7) := HB5.out.trans (bl7'.mono HB5.out.size)
      clear r7 bl7 bl7' HR5 HS5 HB5
      go_wp2_with fail
      refine (rev_n ys.reverse n (by rw [List.length_reverse]; exact HL.out) _ _ w7 hn R7.out).mono ?_
      rintro e w8 ⟨g8, c8, rfl, r8, bl8⟩
      have R8 : Hid (Reads w8 (some ⟨g8, 0, none⟩) c8 ys) := by rw [List.reverse_reverse] at r8; exact r8
      have HR8 : Hid (Reads w8 (some ⟨w.heap.size, 0, none⟩) n ys) := HR7.out.below bl8
      have HS8 : Hid (Reads w8 (some ⟨wr.heap.size, 0, none⟩) n ys) := HS7.out.below bl8
      have HB8 : Hid (Below w.heap.size w w8) := HB7.out.trans (bl8.mono HB7.out.size)
      clear r8 bl8 HR7 HS7 HB7 R7
      go_wp2_with fail
      refine (eq_n ys n HL.out _ _ _ _ w8 R8.out HS8.out).mono ?_
      rintro e w9 ⟨rfl, q9, rfl⟩
      clear R8
      go_wp2_with fail
      refine (eq_n ys n HL.out _ _ _ _ _ (HR8.out.drewN q9) (HS8.out.drewN q9)).mono ?_
      rintro e w10 ⟨rfl, q10, rfl⟩
      go_wp2
      go_ret
      exact ⟨rfl, below_dn HB8.out _⟩
theorem addr_of_cell {w : World} {x : Addr} {v : Value} (h : w.cell? (x.add 0) = some v) : ∃ b o, x = ⟨b, o, none⟩ := by
  obtain ⟨b, o, s⟩ := x
  cases s with
  | none => exact ⟨b, o, rfl⟩
  | some s =>
    exfalso
    unfold World.cell? at h
    simp [Addr.add] at h
    split at h <;> simp_all
theorem walk (a0 : Option Addr) (len0 cap0 : Nat) (z0 : List Int) (w : World) (w0 : IsRow .i8 w a0 len0 cap0 z0) :
    Calls Yba.prog 4 #[.slice a0 len0 cap0] w fun e w' => e = .returned (.bool true) ∧ Below w.heap.size w w' := by
  by_cases hn : len0 ≤ 1024
  · refine walk_core a0 len0 cap0 z0 w hn (by omega) ?_
    intro i hi
    rcases w0 with ⟨_, h, _⟩ | ⟨x, rfl, h1, h2, h3, h4, h5⟩
    · omega
    · have hc := h4 i (by omega)
      have hb := bounds_i8 (h5 (z0.getD i 0) (by rw [List.getD_eq_getElem?_getD, List.getElem?_eq_getElem (by omega)]; exact List.getElem_mem _))
      exact ⟨x, rfl, hc, hb, addr_of_cell (h4 0 (by omega))⟩
  · go_enter Yba.func4, Yba.ntmps4
    go_wp2
    go_ret
    exact ⟨rfl, Below.refl _ _⟩

/-! ### THE ROW's STEP: WRITTEN OUT: LEAVE IT -/
set_option maxRecDepth 100000 in
theorem lifted (os : Os) (started : os.Started) (H : Type) (enc : TypeId × Value → H) :
    ReturnsInHanded {} Yba.checked os 4 .any (Rows.lawS4061BTrimSpec.pre6 enc Yba.prog Yba.f4 Rows.lawS4061BTrimRow.domain false) (Rows.lawS4061BTrimSpec.post enc Yba.prog Yba.f4 false true false false) := by
  refine returnsInHanded_of_change (C := Yba.checked) own started (by kernel_rfl) Yba.func4
    (ChangeSpec.witness6 (enc := enc) (C := Yba.checked) false ⟨#[], #[.slice none 0 0], []⟩ 8 (by kernel_rfl) (by kernel_rfl) (by kernel_rfl) (by kernel_rfl)) ?_
  intro W base args ds gs before hval0 hW hcnd _
  have hval : ∀ (j : Nat) t v, Yba.f4.params[j]? = some t → args[j]? = some v → Value.okWide Yba.prog W .any base t v := hval0
  have hW' := hW
  obtain ⟨p, q, hA0, hV, rfl, hfz, hnd⟩ := hW
  have hA : DataW.TrodAll enc Yba.prog W 0 (fun _ => true) true Yba.f4.params.toList args.toList ds p := hA0
  rw [Yba.params4] at hA hval
  obtain ⟨v0, vs0, d0, ds0, p0, q0, hargs, rfl, rfl, h0, r0⟩ := trodAll_cons hA
  obtain ⟨rfl, rfl, rfl⟩ := trodAll_nil r0
  obtain rfl : args = #[v0] := by cases args; simp_all
  obtain ⟨rfl, rfl⟩ := trodVars_none hV
  obtain ⟨a0, len0, cap0, rfl⟩ := okWide_slice Yba.underlying33 (hval 0 33 v0 rfl rfl)
  have k0 := h0
  have lt0 : ∀ x ∈ p0, x.block < W.heap.size := by obtain ⟨m, hm⟩ := k0; exact DataW.trod_lt m _ _ _ hm
  obtain ⟨z0, w0⟩ : ∃ zs, IsRow .i8 W a0 len0 cap0 zs := by
    obtain ⟨fuel, hf⟩ := h0
    rcases open_ints Yba.underlying33 Yba.underlying34 (by kernel_rfl) hf with ⟨hcs, _⟩ | ⟨x, l, c, zs, hcs, _, hl, hm, hz, _, hcell, hwz⟩
    · simp [Value.cells] at hcs
      obtain ⟨rfl, rfl, rfl⟩ := hcs
      exact ⟨[], .inl ⟨rfl, rfl, rfl, rfl⟩⟩
    · simp [Value.cells] at hcs
      obtain ⟨rfl, rfl, rfl⟩ := hcs
      exact ⟨zs, .inr ⟨_, rfl, hl, hm, by simpa using hz, hcell, hwz⟩⟩
  clear hA0 hval0
  refine (walk a0 len0 cap0 z0 W w0).mono fun e W' ⟨he, bel⟩ => ?_
  subst he
  exact ⟨_, rfl, _, _, _, [], _, [], hW', trodAll_mk1 (shut_bool Yba.underlying4 _), (trodAll_cons_mk (Below.trod laidOut (by kernel_rfl) (of_decide_eq_true (by kernel_rfl)) k0 bel lt0) trodAll_mk0), rfl, bel.frame _, fun h => by cases h⟩

theorem over : Rows.lawS4061BTrimRow.holds Yba.pinned (OpenSpec.ofChange Rows.lawS4061BTrimSpec) :=
  OpenClaim.holds_of_wide 4 Yba.f4 rfl rfl rfl rfl rfl rfl rfl ⟨rfl, rfl, rfl, rfl, rfl⟩ rfl rfl rfl rfl rfl (by kernel_rfl) Yba.func4 (by kernel_rfl)
    (of_decide_eq_true (by kernel_rfl)) (by unfold Func.isWrapper; first | (rw [if_pos (by decide +kernel)]; kernel_rfl) | (rw [if_neg (by decide +kernel)]; exact ⟨rfl, rfl⟩))
    (fun os started H enc _ => lifted os started H enc)

/-- ████ THE STATEMENT ████ -/
theorem proved : Rows.LawS4061BTrimSaid := over
end Go.Proofs.Ybulkcfbs.lawS4061BTrim
