/- A proof of 'Rows.LawS4061BExactSaid'. The frame of the row's step: as the guide's program writes it for a slice of integers, turned to a slice of structs. -/
import Derived.Test.YbulkcfbsBuild
import Derived.ChangeOld
import Derived.ShutString
import Derived.Deep.Slices
namespace Go.Proofs.Ybulkcfbs.lawS4061BExact
open Go.ChangeShapes Go.WideShapes Go.ChangeAt Go.RowKit
open Go.Proofs.Ybulkcfbs.items
set_option linter.unusedVariables false
theorem own : ownKnob Yba.prog.godebug = none := by kernel_rfl
theorem laidOut : laidOutB Yba.prog = true := by kernel_rfl
theorem rev_n (xs : List items.Item) (n : Nat) (hl : xs.length = n) (ad : Addr) (c : Nat) (w : World) (hm : n ≤ 1024) (hx : Reads w (some ad) c xs) :
    Calls Yba.prog 6 #[.slice (some ad) n c] w fun e w' => ∃ g c', e = .returned (.slice (some ⟨g, 0, none⟩) n c') ∧ w.heap.size ≤ g ∧ w'.ownsRow w.heap.size 30 5 (.slice (some ⟨g, 0, none⟩) n c') n (flat xs.reverse) ∧ Below w.heap.size w w' := by
  subst hl
  refine (reversed_any xs (some ad) c w (fun h => by cases h) hm hx).mono ?_
  rintro e w' ⟨v, rfl, ho, hv, hb⟩
  rcases ho.2 with ⟨h1, h2⟩ | ⟨g, cap, cur, rfl, hg, _⟩
  · have := hv.1 h1
    simp at this
  · exact ⟨g, cap, rfl, hg, ho, hb⟩
theorem eq_n (xs : List items.Item) (n : Nat) (hl : xs.length = n) (a b : Option Addr) (c d : Nat) (w : World) (hx : Reads w a c xs) (hy : Reads w b d xs) :
    Calls Yba.prog 7 #[.slice a n c, .slice b n d] w fun e w' => e = .returned (.bool true) ∧ ∃ q, w' = w.drewN q := by
  subst hl
  exact eq_any xs a b c d w hx hy
theorem reads_own {w : World} {base g n c : Nat} {xs : List items.Item} (h : w.ownsRow base 30 5 (.slice (some ⟨g, 0, none⟩) n c) n (flat xs)) : Reads w (some ⟨g, 0, none⟩) c xs := by
  obtain ⟨a', c', hv, -, hr⟩ := reads_of_owns h
  simp at hv
  obtain ⟨rfl, rfl⟩ := hv
  exact hr
theorem walk_nil (w : World) : Calls Yba.prog 3 #[.slice none 0 0] w fun e w' => e = .returned (.bool true) ∧ Below w.heap.size w w' := by
  have hsn := fun (w : World) => Lib.run_eql_slice_nil (P := Yba.prog) w 23 30 none 0 0 0 0 Yba.underlying23
  go_enter Yba.func3, Yba.ntmps3
  go_wp2_with fail
  refine (build_nil w).mono ?_
  rintro e w1 ⟨rfl, hw⟩
  obtain rfl := hw.symm
  go_wp2_with fail
  refine (build_nil w).mono ?_
  rintro e w1 ⟨rfl, hw⟩
  obtain rfl := hw.symm
  go_wp2_with fail
  refine (reversed_any [] none 0 w (fun _ => ⟨rfl, rfl⟩) (by simp) ⟨by simp, by omega, fun h => absurd h (by simp)⟩).mono ?_
  rintro e w1 ⟨v, rfl, ho, hv, hb⟩
  obtain rfl := hv.2 rfl
  have HB : Hid (Below w.heap.size w w1) := hb
  clear ho hv hb
  go_wp2
  refine wp_loop_rounds 1 ?_
  rw [rounds_succ]
  go_wp2_with fail
  refine (eq_n [] 0 rfl none none 0 0 w1 ⟨by simp, by omega, fun h => absurd h (by simp)⟩ ⟨by simp, by omega, fun h => absurd h (by simp)⟩).mono ?_
  rintro e w2 ⟨rfl, q, rfl⟩
  go_wp2
  go_ret
  exact ⟨rfl, below_dn HB.out _⟩
set_option maxHeartbeats 1600000 in
theorem walk_some (xs : List items.Item) (n c : Nat) (ad : Addr) (w : World) (hl : n = xs.length) (hn : n ≤ 1024) (hx : Reads w (some ad) c xs) :
    Calls Yba.prog 3 #[.slice (some ad) n c] w fun e w' => e = .returned (.bool true) ∧ Below w.heap.size w w' := by
  have HX : Hid (Reads w (some ad) c xs) := hx
  have HN : Hid (n = xs.length) := hl
  clear hx hl
  go_enter Yba.func3, Yba.ntmps3
  go_wp2_with fail
  refine (build_some xs n c ad w HN.out hn HX.out).mono ?_
  rintro e w1 ⟨rfl, ho1, hb1⟩
  have HX1 : Hid (Reads w1 (some ad) c xs) := HX.out.below hb1
  have I1 : Hid (Reads w1 (some ⟨w.heap.size, 0, none⟩) n xs) := reads_own ho1
  have B1 : Hid (Below w.heap.size w w1) := hb1
  have s1 := hb1.size
  clear HX ho1 hb1
  go_wp2_with fail
  refine (build_some xs n c ad w1 HN.out hn HX1.out).mono ?_
  rintro e w2 ⟨rfl, ho2, hb2⟩
  have I2 : Hid (Reads w2 (some ⟨w.heap.size, 0, none⟩) n xs) := I1.out.below hb2
  have S2 : Hid (Reads w2 (some ⟨w1.heap.size, 0, none⟩) n xs) := reads_own ho2
  have B2 : Hid (Below w.heap.size w w2) := B1.out.trans (hb2.mono s1)
  have s2 := hb2.size
  clear HX1 ho2 hb2 I1 B1
  go_wp2_with fail
  refine (rev_n xs n HN.out.symm _ _ w2 hn I2.out).mono ?_
  rintro e w3 ⟨gr, cr, rfl, hgr, ho3, hb3⟩
  have B23 : Hid (Below w2.heap.size w2 w3) := hb3
  have I3 : Hid (Reads w3 (some ⟨w.heap.size, 0, none⟩) n xs) := I2.out.below hb3
  have S3 : Hid (Reads w3 (some ⟨w1.heap.size, 0, none⟩) n xs) := S2.out.below hb3
  have R3 : Hid (Reads w3 (some ⟨gr, 0, none⟩) cr xs.reverse) := reads_own ho3
  have O3 : Hid (w3.ownsRow w2.heap.size 30 5 (.slice (some ⟨gr, 0, none⟩) n cr) n (flat xs.reverse)) := ho3
  clear ho3 hb3
  have hsn1 := fun (w : World) => Lib.run_eql_slice_nil (P := Yba.prog) w 23 30 (some ⟨gr, 0, none⟩) n cr 0 0 Yba.underlying23
  have hsn2 := fun (wx : World) => Lib.run_eql_slice_nil (P := Yba.prog) wx 23 30 (some ⟨w.heap.size, 0, none⟩) n n 0 0 Yba.underlying23
  go_wp2
  clear hsn1 hsn2
  have G : Hid (∀ k, k < n → ∃ x, At w3 gr (k * 5) x ∧ At w3 w1.heap.size ((n - 1 - k) * 5) x) := by
    intro k hk
    have hN := HN.out
    obtain ⟨g, o, ha, hA⟩ := R3.out.cells (by rw [List.length_reverse]; omega)
    obtain ⟨g', o', ha', hA'⟩ := S3.out.cells (by omega)
    simp at ha ha'
    obtain ⟨rfl, rfl⟩ := ha
    obtain ⟨rfl, rfl⟩ := ha'
    obtain ⟨x, hx⟩ : ∃ x, xs[n - 1 - k]? = some x := ⟨xs[n - 1 - k]'(by omega), List.getElem?_eq_getElem (by omega)⟩
    refine ⟨x, (hA k x ?_).cast (by omega), (hA' (n - 1 - k) x hx).cast (by omega)⟩
    rw [List.getElem?_reverse (by omega), ← hN]
    exact hx
  go_loopw [7] (fun i wr => ∃ k q : Nat, k ≤ n ∧ i = .int .i64 k ∧ wr = w3.drewN q) (fun i _ => n - (intOf i).toNat)
  case atStart => exact ⟨0, 0, by omega, rfl, rfl⟩
  case round =>
    obtain ⟨k, q, hk, rfl, rfl⟩ := hrel
    by_cases hlt : k < n
    · obtain ⟨x, ⟨c0, c1, c2, c3, c4⟩, ⟨d0, d1, d2, d3, d4⟩⟩ := G.out k hlt
      obtain ⟨x0, x1, x2, x3, x4⟩ := x
      simp only at c0 c1 c2 c3 c4 d0 d1 d2 d3 d4
      go_wp2
      go_quiet (fail)
      go_wp2
      go_roundw
      case rel => exact ⟨k + 1, _, by omega, by go_num, rfl⟩
      case measure => simp [intOf]; omega
    · go_wp2_with fail
      refine (eq_n xs n HN.out.symm _ _ _ _ _ (I3.out.drewN q) (S3.out.drewN q)).mono ?_
      rintro e w4 ⟨rfl, q4, rfl⟩
      by_cases h0 : 0 < n
      · obtain ⟨x, hx⟩ : ∃ x, xs[n - 1]? = some x := ⟨xs[n - 1]'(by have := HN.out; omega), List.getElem?_eq_getElem (by have := HN.out; omega)⟩
        have hA : At w3 w.heap.size ((n - 1) * 5) x ∧ At w3 w1.heap.size ((n - 1) * 5) x ∧ w.heap.size < w2.heap.size ∧ w1.heap.size < w2.heap.size := by
          obtain ⟨g, o, ha, hA⟩ := I3.out.cells (by have := HN.out; omega)
          obtain ⟨g', o', ha', hA'⟩ := S3.out.cells (by have := HN.out; omega)
          obtain ⟨g2, o2, ha2, hA2⟩ := I2.out.cells (by have := HN.out; omega)
          obtain ⟨g3, o3, ha3, hA3⟩ := S2.out.cells (by have := HN.out; omega)
          simp at ha ha' ha2 ha3
          obtain ⟨rfl, rfl⟩ := ha
          obtain ⟨rfl, rfl⟩ := ha'
          obtain ⟨rfl, rfl⟩ := ha2
          obtain ⟨rfl, rfl⟩ := ha3
          exact ⟨(hA _ _ hx).cast (by omega), (hA' _ _ hx).cast (by omega), lt_of_cell (hA2 _ _ hx).c0, lt_of_cell (hA3 _ _ hx).c0⟩
        obtain ⟨⟨c0, c1, c2, c3, c4⟩, ⟨d0, d1, d2, d3, d4⟩, l1, l2⟩ := hA
        have n1 : ¬ w.heap.size = gr := by omega
        have n2 : ¬ w1.heap.size = gr := by omega
        have n3 : ¬ gr = w.heap.size := by omega
        have n4 : ¬ gr = w1.heap.size := by omega
        obtain ⟨y, hy, -⟩ := G.out 0 h0
        have y0 := hy.c0
        rw [Nat.zero_mul] at y0
        have fz : w3.frozen? ⟨gr, 0, none⟩ = false := O3.out.frozenAt 0
        have HB : Hid (Below w.heap.size w (w3.setCell ⟨gr, 0, none⟩ (.int .i64 (wrap64 (y.node + 1))))) := (B2.out.trans (B23.out.mono (by omega))).setCell (show w.heap.size ≤ gr by omega) _
        obtain ⟨x0, x1, x2, x3, x4⟩ := x
        simp only at c0 c1 c2 c3 c4 d0 d1 d2 d3 d4
        clear hx G I3 S3 R3 O3 I2 S2 B2 B23 HN hy
        go_wp2
        go_quiet (fail)
        go_wp2
        go_ret
        exact ⟨rfl, below_dn (below_dn (w := w3.setCell ⟨gr, 0, none⟩ (.int .i64 (wrap64 (y.node + 1)))) HB.out (q + q4)) nq⟩
      · obtain rfl : n = 0 := by omega
        have HB : Hid (Below w.heap.size w w3) := B2.out.trans (B23.out.mono (by omega))
        clear G I3 S3 R3 O3 I2 S2 B2 B23 HN
        go_wp2
        go_ret
        exact ⟨rfl, below_dn HB.out _⟩
/-- What the walk is told of the slice that came in: it is nil, or it leads to items, each of five cells. -/
def IsItems (w : World) (a : Option Addr) (len cap : Nat) : Prop :=
  (a = none ∧ len = 0 ∧ cap = 0) ∨ ∃ ad xs, a = some ad ∧ len = List.length xs ∧ Reads w (some ad) cap xs
theorem cells37 : Yba.prog.cellsOf 37 = 5 := by kernel_rfl
theorem cells3 : Yba.prog.cellsOf 3 = 1 := by kernel_rfl
theorem cells9 : Yba.prog.cellsOf 9 = 1 := by kernel_rfl
theorem addr_of_cell {w : World} {x : Addr} {v : Value} (h : w.cell? x = some v) : ∃ b o, x = ⟨b, o, none⟩ := by
  obtain ⟨b, o, s⟩ := x
  cases s with
  | none => exact ⟨b, o, rfl⟩
  | some s =>
    exfalso
    unfold World.cell? at h
    simp at h
    split at h <;> simp_all
theorem add_none (b o k : Nat) : (⟨b, o, none⟩ : Addr).add k = ⟨b, o + k, none⟩ := by unfold Addr.add; split <;> simp_all
theorem item_of_trod {H : Type} {enc : TypeId × Value → H} {w : World} {base : Nat} {spare : Nat → Bool} {held : Bool} {fuel : Nat} {cs : List Value} {x : DataW H × List MemPlace}
    (h : DataW.trod enc Yba.prog w base spare held fuel 37 cs = some x) : ∃ y : items.Item, cs = y.cells := by
  obtain ⟨ys, n, rfl, -, hlen, hsz, hf⟩ := DataW.trod_struct Yba.underlying37 h
  rw [cells37] at hlen
  obtain ⟨a, b, c, d, e, rfl⟩ : ∃ a b c d e, cs = [a, b, c, d, e] := by
    match cs, hlen with
    | [a, b, c, d, e], _ => exact ⟨a, b, c, d, e, rfl⟩
  have f0 : DataW.trod enc Yba.prog w base spare held n 3 (List.take (Yba.prog.cellsOf 3) (List.drop 0 [a, b, c, d, e])) = ys[0]? := hf 0 _ rfl
  have f1 : DataW.trod enc Yba.prog w base spare held n 3 (List.take (Yba.prog.cellsOf 3) (List.drop 1 [a, b, c, d, e])) = ys[1]? := hf 1 _ rfl
  have f2 : DataW.trod enc Yba.prog w base spare held n 9 (List.take (Yba.prog.cellsOf 9) (List.drop 2 [a, b, c, d, e])) = ys[2]? := hf 2 _ rfl
  have f3 : DataW.trod enc Yba.prog w base spare held n 3 (List.take (Yba.prog.cellsOf 3) (List.drop 3 [a, b, c, d, e])) = ys[3]? := hf 3 _ rfl
  have f4 : DataW.trod enc Yba.prog w base spare held n 3 (List.take (Yba.prog.cellsOf 3) (List.drop 4 [a, b, c, d, e])) = ys[4]? := hf 4 _ rfl
  have hy : ∀ i, i < 5 → ∃ y, ys[i]? = some y := fun i hi => ⟨ys[i]'(by rw [hsz]; exact hi), List.getElem?_eq_getElem _⟩
  obtain ⟨y0, e0⟩ := hy 0 (by omega)
  obtain ⟨y1, e1⟩ := hy 1 (by omega)
  obtain ⟨y2, e2⟩ := hy 2 (by omega)
  obtain ⟨y3, e3⟩ := hy 3 (by omega)
  obtain ⟨y4, e4⟩ := hy 4 (by omega)
  rw [e0] at f0
  rw [e1] at f1
  rw [e2] at f2
  rw [e3] at f3
  rw [e4] at f4
  rw [cells3] at f0 f1 f3 f4
  rw [cells9] at f2
  obtain ⟨n0, g0, -, -⟩ := DataW.trod_int Yba.underlying3 f0
  obtain ⟨n1, g1, -, -⟩ := DataW.trod_int Yba.underlying3 f1
  obtain ⟨n2, g2, -, -⟩ := DataW.trod_string Yba.underlying9 f2
  obtain ⟨n3, g3, -, -⟩ := DataW.trod_int Yba.underlying3 f3
  obtain ⟨n4, g4, -, -⟩ := DataW.trod_int Yba.underlying3 f4
  simp at g0 g1 g2 g3 g4
  subst g0 g1 g2 g3 g4
  exact ⟨⟨n0, n1, n2, n3, n4⟩, rfl⟩
theorem list_of {P : Nat → items.Item → Prop} (n : Nat) (h : ∀ i, i < n → ∃ x, P i x) : ∃ xs : List items.Item, xs.length = n ∧ ∀ i x, xs[i]? = some x → P i x := by
  induction n with
  | zero => exact ⟨[], rfl, fun i x hi => by simp at hi⟩
  | succ n ih =>
    obtain ⟨xs, hl, hx⟩ := ih fun i hi => h i (by omega)
    obtain ⟨y, hy⟩ := h n (by omega)
    refine ⟨xs ++ [y], by simp [hl], fun i x hi => ?_⟩
    by_cases hin : i < n
    · rw [List.getElem?_append_left (by omega)] at hi
      exact hx i x hi
    · rw [List.getElem?_append_right (by omega), hl] at hi
      by_cases e : i = n
      · subst e
        simp at hi
        subst hi
        exact hy
      · rw [List.getElem?_eq_none (by simp; omega)] at hi
        cases hi
theorem items_of_trod {H : Type} {enc : TypeId × Value → H} {w : World} {held : Bool} {fuel : Nat} {a0 : Option Addr} {len0 cap0 : Nat} {x : DataW H × List MemPlace}
    (h : DataW.trod enc Yba.prog w 0 (fun _ => true) held fuel 22 (Value.slice a0 len0 cap0).cells.toList = some x) : IsItems w a0 len0 cap0 := by
  rcases Go.Deep.open_slice Yba.underlying22 h with ⟨hcs, _⟩ | ⟨a, len, cap, m, n, D, Pl, hcs, _, hl, hm, hmm, _, hx⟩
  · simp [Value.cells] at hcs
    obtain ⟨rfl, rfl, rfl⟩ := hcs
    exact .inl ⟨rfl, rfl, rfl⟩
  · simp [Value.cells] at hcs
    obtain ⟨rfl, rfl, rfl⟩ := hcs
    simp at hmm
    subst hmm
    rw [cells37] at hx
    unfold maxLen at hm
    have each : ∀ i, i < len0 → ∃ y : items.Item, ∀ j, j < 5 → w.cell? ((a.add (i * 5)).add j) = y.cells[j]? := fun i hi => by
      obtain ⟨cs', hc, ht⟩ := hx i (by omega)
      obtain ⟨y, rfl⟩ := item_of_trod ht
      have := World.cells?_some hc
      exact ⟨y, fun j hj => by simpa using this.2.2 j hj⟩
    obtain ⟨xs, hlen, hxs⟩ := list_of len0 each
    refine .inr ⟨a, xs, rfl, hlen.symm, ⟨by omega, by omega, fun h0 => ?_⟩⟩
    obtain ⟨y, hy⟩ := each 0 (by omega)
    have h00 := hy 0 (by omega)
    simp [Addr.add] at h00
    obtain ⟨b, o, rfl⟩ := addr_of_cell h00
    refine ⟨b, o, rfl, fun i x hi => ?_⟩
    have hc := hxs i x hi
    have key : ∀ j, j < 5 → w.cell? ⟨b, o + i * 5 + j, none⟩ = x.cells[j]? := fun j hj => by
      have := hc j hj
      rw [add_none, add_none] at this
      exact this
    exact ⟨key 0 (by omega), key 1 (by omega), key 2 (by omega), key 3 (by omega), key 4 (by omega)⟩
theorem walk (a0 : Option Addr) (len0 cap0 : Nat) (w : World) (w0 : IsItems w a0 len0 cap0) :
    Calls Yba.prog 3 #[.slice a0 len0 cap0] w fun e w' => e = .returned (.bool true) ∧ Below w.heap.size w w' := by
  by_cases hn : len0 ≤ 1024
  · rcases w0 with ⟨rfl, rfl, rfl⟩ | ⟨ad, xs, rfl, hl, hx⟩
    · exact walk_nil w
    · exact walk_some xs len0 cap0 ad w hl hn hx
  · go_enter Yba.func3, Yba.ntmps3
    go_wp2
    go_ret
    exact ⟨rfl, Below.refl _ _⟩

/-! ### THE ROW's STEP: WRITTEN OUT: LEAVE IT -/
set_option maxRecDepth 100000 in
theorem lifted (os : Os) (started : os.Started) (H : Type) (enc : TypeId × Value → H) :
    ReturnsInHanded {} Yba.checked os 3 .any (Rows.lawS4061BExactSpec.pre6 enc Yba.prog Yba.f3 Rows.lawS4061BExactRow.domain false) (Rows.lawS4061BExactSpec.post enc Yba.prog Yba.f3 false true false false) := by
  refine returnsInHanded_of_change (C := Yba.checked) own started (by kernel_rfl) Yba.func3
    (ChangeSpec.witness6 (enc := enc) (C := Yba.checked) false ⟨#[], #[.slice none 0 0], []⟩ 8 (by kernel_rfl) (by kernel_rfl) (by kernel_rfl) (by kernel_rfl)) ?_
  intro W base args ds gs before hval0 hW hcnd _
  have hval : ∀ (j : Nat) t v, Yba.f3.params[j]? = some t → args[j]? = some v → Value.okWide Yba.prog W .any base t v := hval0
  have hW' := hW
  obtain ⟨p, q, hA0, hV, rfl, hfz, hnd⟩ := hW
  have hA : DataW.TrodAll enc Yba.prog W 0 (fun _ => true) true Yba.f3.params.toList args.toList ds p := hA0
  rw [Yba.params3] at hA hval
  obtain ⟨v0, vs0, d0, ds0, p0, q0, hargs, rfl, rfl, h0, r0⟩ := trodAll_cons hA
  obtain ⟨rfl, rfl, rfl⟩ := trodAll_nil r0
  obtain rfl : args = #[v0] := by cases args; simp_all
  obtain ⟨rfl, rfl⟩ := trodVars_none hV
  obtain ⟨a0, len0, cap0, rfl⟩ := okWide_slice Yba.underlying22 (hval 0 22 v0 rfl rfl)
  have k0 := h0
  have lt0 : ∀ x ∈ p0, x.block < W.heap.size := by obtain ⟨m, hm⟩ := k0; exact DataW.trod_lt m _ _ _ hm
  have w0 : IsItems W a0 len0 cap0 := by
    obtain ⟨fuel, hf⟩ := h0
    exact items_of_trod hf
  clear hA0 hval0
  refine (walk a0 len0 cap0 W w0).mono fun e W' ⟨he, bel⟩ => ?_
  subst he
  exact ⟨_, rfl, _, _, _, [], _, [], hW', trodAll_mk1 (shut_bool Yba.underlying4 _), (trodAll_cons_mk (Below.trod laidOut (by kernel_rfl) (of_decide_eq_true (by kernel_rfl)) k0 bel lt0) trodAll_mk0), rfl, bel.frame _, fun h => by cases h⟩

theorem over : Rows.lawS4061BExactRow.holds Yba.pinned (OpenSpec.ofChange Rows.lawS4061BExactSpec) :=
  OpenClaim.holds_of_wide 3 Yba.f3 rfl rfl rfl rfl rfl rfl rfl ⟨rfl, rfl, rfl, rfl, rfl⟩ rfl rfl rfl rfl rfl (by kernel_rfl) Yba.func3 (by kernel_rfl)
    (of_decide_eq_true (by kernel_rfl)) (by unfold Func.isWrapper; first | (rw [if_pos (by decide +kernel)]; kernel_rfl) | (rw [if_neg (by decide +kernel)]; exact ⟨rfl, rfl⟩))
    (fun os started H enc _ => lifted os started H enc)

/-- ████ THE STATEMENT ████ -/
theorem proved : Rows.LawS4061BExactSaid := over
end Go.Proofs.Ybulkcfbs.lawS4061BExact
