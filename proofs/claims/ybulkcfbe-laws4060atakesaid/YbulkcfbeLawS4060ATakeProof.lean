/- A proof of 'Rows.LawS4060ATakeSaid'. The frame of the row's step: as the guide's program writes it for slices of integers, turned to slices of structs. -/
import Derived.Test.YbulkcfbeLaw
import Derived.ChangeOld
import Derived.ShutString
import Derived.Deep.Slices
namespace Go.Proofs.Ybulkcfbe.lawS4060ATake
open Go.ChangeShapes Go.WideShapes Go.ChangeAt Go.RowKit
open Go.Proofs.Ybulkcfbe.tab
set_option linter.unusedVariables false
theorem own : ownKnob Yba.prog.godebug = none := by kernel_rfl
theorem laidOut : laidOutB Yba.prog = true := by kernel_rfl
theorem cells25 : Yba.prog.cellsOf 25 = 4 := by kernel_rfl
theorem cells43 : Yba.prog.cellsOf 43 = 3 := by kernel_rfl
theorem cells41 : Yba.prog.cellsOf 41 = 1 := by kernel_rfl
theorem cells21 : Yba.prog.cellsOf 21 = 1 := by kernel_rfl
theorem cells23 : Yba.prog.cellsOf 23 = 1 := by kernel_rfl
theorem cells5 : Yba.prog.cellsOf 5 = 1 := by kernel_rfl
theorem cells4 : Yba.prog.cellsOf 4 = 1 := by kernel_rfl
theorem wf_u8 {n : Int} (h : (Lit.int .u8 n).wf = true) : 0 ≤ n ∧ n ≤ 255 := by
  simp [Lit.wf, IntKind.min, IntKind.max, IntKind.bits, IntKind.signed] at h
  omega
theorem wf_i32 {n : Int} (h : (Lit.int .i32 n).wf = true) : -2147483648 ≤ n ∧ n ≤ 2147483647 := by
  simp [Lit.wf, IntKind.min, IntKind.max, IntKind.bits, IntKind.signed] at h
  omega
theorem addr_of_cell {w : World} {x : Addr} {v : Value} (h : w.cell? x = some v) : ∃ b o, x = ⟨b, o, none⟩ := by
  obtain ⟨b, o, s⟩ := x
  cases s with
  | none => exact ⟨b, o, rfl⟩
  | some s =>
    exfalso
    unfold World.cell? at h
    simp at h
    split at h <;> simp_all
theorem add_none (b o k : Nat) : (⟨b, o, none⟩ : Addr).add k = ⟨b, o + k, none⟩ := by unfold Addr.add; split <;> simp_all
theorem list_of {α : Type} {P : Nat → α → Prop} (n : Nat) (h : ∀ i, i < n → ∃ x, P i x) : ∃ xs : List α, xs.length = n ∧ ∀ i x, xs[i]? = some x → P i x := by
  induction n with
  | zero => exact ⟨[], rfl, fun i x hi => by simp at hi⟩
  | succ n ih =>
    obtain ⟨xs, hl, hx⟩ := ih fun i hi => h i (by omega)
    obtain ⟨y, hy⟩ := h n (by omega)
    refine ⟨xs ++ [y], by simp [hl], fun i x hi => ?_⟩
    by_cases hin : i < n
    · rw [List.getElem?_append_left (by omega)] at hi
      exact hx i x hi
    · rw [List.getElem?_append_right (by omega), hl] at hi
      by_cases e : i = n
      · subst e
        simp at hi
        subst hi
        exact hy
      · rw [List.getElem?_eq_none (by simp; omega)] at hi
        cases hi
section
variable {H : Type} {enc : TypeId × Value → H} {w : World} {base : Nat} {spare : Nat → Bool} {held : Bool} {fuel : Nat} {cs : List Value} {x : DataW H × List MemPlace}
set_option maxRecDepth 100000 in
theorem wt_of_trod (h : DataW.trod enc Yba.prog w base spare held fuel 43 cs = some x) : ∃ q : Wt, cs = [.int .u16 q.p, .int .i32 q.x, .int .u8 q.l] ∧ (-2147483648 ≤ q.x ∧ q.x ≤ 2147483647) ∧ q.l ≤ 255 := by
  obtain ⟨ys, n, rfl, -, hlen, hsz, hf⟩ := DataW.trod_struct Yba.underlying43 h
  rw [cells43] at hlen
  obtain ⟨a, b, c, rfl⟩ : ∃ a b c, cs = [a, b, c] := by
    match cs, hlen with
    | [a, b, c], _ => exact ⟨a, b, c, rfl⟩
  have f0 : DataW.trod enc Yba.prog w base spare held n 41 (List.take (Yba.prog.cellsOf 41) (List.drop 0 [a, b, c])) = ys[0]? := hf 0 _ rfl
  have f1 : DataW.trod enc Yba.prog w base spare held n 21 (List.take (Yba.prog.cellsOf 21) (List.drop 1 [a, b, c])) = ys[1]? := hf 1 _ rfl
  have f2 : DataW.trod enc Yba.prog w base spare held n 5 (List.take (Yba.prog.cellsOf 5) (List.drop 2 [a, b, c])) = ys[2]? := hf 2 _ rfl
  have hy : ∀ i, i < 3 → ∃ y, ys[i]? = some y := fun i hi => ⟨ys[i]'(by rw [hsz]; exact hi), List.getElem?_eq_getElem _⟩
  obtain ⟨y0, e0⟩ := hy 0 (by omega)
  obtain ⟨y1, e1⟩ := hy 1 (by omega)
  obtain ⟨y2, e2⟩ := hy 2 (by omega)
  rw [e0, cells41] at f0
  rw [e1, cells21] at f1
  rw [e2, cells5] at f2
  obtain ⟨n0, g0, -, -⟩ := DataW.trod_int Yba.underlying41 f0
  obtain ⟨n1, g1, -, r1⟩ := DataW.trod_int Yba.underlying21 f1
  obtain ⟨n2, g2, -, r2⟩ := DataW.trod_int Yba.underlying5 f2
  have b2 := wf_u8 r2
  simp at g0 g1 g2
  subst g0 g1 g2
  refine ⟨⟨n0, n1, n2.toNat⟩, ?_, wf_i32 r1, by show n2.toNat ≤ 255; omega⟩
  simp only [Int.toNat_of_nonneg b2.1]
theorem waits_of_trod {a0 : Option Addr} {len0 cap0 : Nat} (h : DataW.trod enc Yba.prog w 0 (fun _ => true) held fuel 23 [Value.slice a0 len0 cap0] = some x) : ∃ ws, ReadsW w a0 len0 ws := by
  rcases Go.Deep.open_slice Yba.underlying23 h with ⟨hcs, _⟩ | ⟨a, len, cap, m, n, D, Pl, hcs, _, hl, hm, hmm, _, hx⟩
  · simp at hcs
    obtain ⟨rfl, rfl, rfl⟩ := hcs
    exact ⟨[], rfl, fun i q hq => by simp at hq⟩
  · simp at hcs
    obtain ⟨rfl, rfl, rfl⟩ := hcs
    simp at hmm
    subst hmm
    rw [cells43] at hx
    have each : ∀ i, i < len0 → ∃ q : Wt, ((-2147483648 ≤ q.x ∧ q.x ≤ 2147483647) ∧ q.l ≤ 255) ∧ ∀ j, j < 3 → w.cell? ((a.add (i * 3)).add j) = [Value.int .u16 q.p, .int .i32 q.x, .int .u8 q.l][j]? := fun i hi => by
      obtain ⟨cs', hc, ht⟩ := hx i (by omega)
      obtain ⟨y, rfl, hb⟩ := wt_of_trod ht
      have := World.cells?_some hc
      exact ⟨y, hb, fun j hj => by simpa using this.2.2 j hj⟩
    obtain ⟨ws, hlen, hws⟩ := list_of len0 each
    refine ⟨ws, hlen, fun i q hq => ?_⟩
    obtain ⟨hb, hc⟩ := hws i q hq
    have hi : i < len0 := by rw [← hlen]; exact (List.getElem?_eq_some_iff.1 hq).1
    obtain ⟨_, _, h0⟩ := each 0 (by omega)
    have h00 := h0 0 (by omega)
    simp [Addr.add] at h00
    obtain ⟨b, o, rfl⟩ := addr_of_cell h00
    have lb := World.block_lt_of_cell? w _ h00
    have key : ∀ j, j < 3 → w.cell? ⟨b, o + i * 3 + j, none⟩ = [Value.int .u16 q.p, .int .i32 q.x, .int .u8 q.l][j]? := fun j hj => by
      have := hc j hj
      rw [add_none, add_none] at this
      exact this
    exact ⟨b, o, rfl, lb, key 0 (by omega), key 1 (by omega), key 2 (by omega), hb.1, hb.2⟩
set_option maxRecDepth 100000 in
theorem ent_of_trod (h : DataW.trod enc Yba.prog w 0 (fun _ => true) held fuel 25 cs = some x) : ∃ d : Dt, cs = [.int .u8 d.r, .int .u8 d.n, .bool d.rnp, .slice d.a d.len d.c] ∧ d.r ≤ 255 ∧ d.n ≤ 255 ∧ ReadsW w d.a d.len d.ws := by
  obtain ⟨ys, n, rfl, -, hlen, hsz, hf⟩ := DataW.trod_struct Yba.underlying25 h
  rw [cells25] at hlen
  obtain ⟨a, b, c, d, rfl⟩ : ∃ a b c d, cs = [a, b, c, d] := by
    match cs, hlen with
    | [a, b, c, d], _ => exact ⟨a, b, c, d, rfl⟩
  have f0 : DataW.trod enc Yba.prog w 0 (fun _ => true) held n 5 (List.take (Yba.prog.cellsOf 5) (List.drop 0 [a, b, c, d])) = ys[0]? := hf 0 _ rfl
  have f1 : DataW.trod enc Yba.prog w 0 (fun _ => true) held n 5 (List.take (Yba.prog.cellsOf 5) (List.drop 1 [a, b, c, d])) = ys[1]? := hf 1 _ rfl
  have f2 : DataW.trod enc Yba.prog w 0 (fun _ => true) held n 4 (List.take (Yba.prog.cellsOf 4) (List.drop 2 [a, b, c, d])) = ys[2]? := hf 2 _ rfl
  have f3 : DataW.trod enc Yba.prog w 0 (fun _ => true) held n 23 (List.take (Yba.prog.cellsOf 23) (List.drop 3 [a, b, c, d])) = ys[3]? := hf 3 _ rfl
  have hy : ∀ i, i < 4 → ∃ y, ys[i]? = some y := fun i hi => ⟨ys[i]'(by rw [hsz]; exact hi), List.getElem?_eq_getElem _⟩
  obtain ⟨y0, e0⟩ := hy 0 (by omega)
  obtain ⟨y1, e1⟩ := hy 1 (by omega)
  obtain ⟨y2, e2⟩ := hy 2 (by omega)
  obtain ⟨y3, e3⟩ := hy 3 (by omega)
  rw [e0, cells5] at f0
  rw [e1, cells5] at f1
  rw [e2, cells4] at f2
  rw [e3, cells23] at f3
  obtain ⟨n0, g0, -, r0⟩ := DataW.trod_int Yba.underlying5 f0
  obtain ⟨n1, g1, -, r1⟩ := DataW.trod_int Yba.underlying5 f1
  obtain ⟨b2, g2, -⟩ := DataW.trod_bool Yba.underlying4 f2
  have q0 := wf_u8 r0
  have q1 := wf_u8 r1
  have f3' : DataW.trod enc Yba.prog w 0 (fun _ => true) held n 23 [d] = some y3 := f3
  obtain ⟨a3, l3, c3, rfl⟩ : ∃ a3 l3 c3, d = .slice a3 l3 c3 := by
    rcases Go.Deep.open_slice Yba.underlying23 f3' with ⟨hcs, _⟩ | ⟨a, len, cap, m, n, D, Pl, hcs, _⟩
    · simp at hcs; exact ⟨_, _, _, hcs⟩
    · simp at hcs; exact ⟨_, _, _, hcs⟩
  obtain ⟨ws, hws⟩ := waits_of_trod f3'
  simp at g0 g1 g2
  subst g0 g1 g2
  refine ⟨⟨n0.toNat, n1.toNat, b2, a3, l3, c3, ws⟩, ?_, by show n0.toNat ≤ 255; omega, by show n1.toNat ≤ 255; omega, hws⟩
  simp only [Int.toNat_of_nonneg q0.1, Int.toNat_of_nonneg q1.1]
theorem ents_of_trod {a0 : Option Addr} {len0 cap0 : Nat} (h : DataW.trod enc Yba.prog w 0 (fun _ => true) held fuel 22 (Value.slice a0 len0 cap0).cells.toList = some x) : ∃ ds, ReadsE w a0 len0 ds := by
  rcases Go.Deep.open_slice Yba.underlying22 h with ⟨hcs, _⟩ | ⟨a, len, cap, m, n, D, Pl, hcs, _, hl, hm, hmm, _, hx⟩
  · simp [Value.cells] at hcs
    obtain ⟨rfl, rfl, rfl⟩ := hcs
    exact ⟨[], rfl, fun i q hq => by simp at hq⟩
  · simp [Value.cells] at hcs
    obtain ⟨rfl, rfl, rfl⟩ := hcs
    simp at hmm
    subst hmm
    rw [cells25] at hx
    have each : ∀ i, i < len0 → ∃ d : Dt, (d.r ≤ 255 ∧ d.n ≤ 255 ∧ ReadsW w d.a d.len d.ws) ∧ ∀ j, j < 4 → w.cell? ((a.add (i * 4)).add j) = [Value.int .u8 d.r, .int .u8 d.n, .bool d.rnp, .slice d.a d.len d.c][j]? := fun i hi => by
      obtain ⟨cs', hc, ht⟩ := hx i (by omega)
      obtain ⟨y, rfl, hb⟩ := ent_of_trod ht
      have := World.cells?_some hc
      exact ⟨y, hb, fun j hj => by simpa using this.2.2 j hj⟩
    obtain ⟨ds, hlen, hds⟩ := list_of len0 each
    refine ⟨ds, hlen, fun i d hd => ?_⟩
    obtain ⟨hb, hc⟩ := hds i d hd
    have hi : i < len0 := by rw [← hlen]; exact (List.getElem?_eq_some_iff.1 hd).1
    obtain ⟨_, _, h0⟩ := each 0 (by omega)
    have h00 := h0 0 (by omega)
    simp [Addr.add] at h00
    obtain ⟨b, o, rfl⟩ := addr_of_cell h00
    have lb := World.block_lt_of_cell? w _ h00
    have key : ∀ j, j < 4 → w.cell? ⟨b, o + i * 4 + j, none⟩ = [Value.int .u8 d.r, .int .u8 d.n, .bool d.rnp, .slice d.a d.len d.c][j]? := fun j hj => by
      have := hc j hj
      rw [add_none, add_none] at this
      exact this
    exact ⟨b, o, rfl, lb, key 0 (by omega), key 1 (by omega), key 2 (by omega), key 3 (by omega), hb.1, hb.2.1, hb.2.2⟩
end
set_option maxRecDepth 100000 in
set_option maxHeartbeats 1600000 in
theorem walk (a0 a3 : Option Addr) (n0 c0 n3 c3 : Nat) (kr kn now size bytes : Int) (ds : List Dt) (pre : List Wt) (w : World) (hk : 0 ≤ kr ∧ kr ≤ 255) (hk' : 0 ≤ kn ∧ kn ≤ 255) (hnow : -2147483648 ≤ now ∧ now ≤ 2147483647) (hE : ReadsE w a0 n0 ds) (hP : ReadsW w a3 n3 pre) :
    Calls Yba.prog 3 #[.slice a0 n0 c0, .int .u8 kr, .int .u8 kn, .slice a3 n3 c3, .int .i32 now, .int .i64 size, .int .i64 bytes] w fun e w' => e = .returned (.bool true) ∧ Below w.heap.size w w' := by
  by_cases h0 : n0 ≤ 1024
  · by_cases h3 : n3 ≤ 1024
    · have := walk_core a0 a3 n0 c0 n3 c3 kr.toNat kn.toNat now size bytes ds pre w h0 h3 (by omega) (by omega) hnow hE hP
      rw [Int.toNat_of_nonneg hk.1, Int.toNat_of_nonneg hk'.1] at this
      exact this
    · clear hE hP
      go_enter Yba.func3, Yba.ntmps3
      go_wp2
      go_ret
      exact ⟨rfl, Below.refl _ _⟩
  · clear hE hP
    go_enter Yba.func3, Yba.ntmps3
    go_wp2
    go_ret
    exact ⟨rfl, Below.refl _ _⟩

/-! ### THE ROW's STEP -/
set_option maxRecDepth 100000 in
theorem lifted (os : Os) (started : os.Started) (H : Type) (enc : TypeId × Value → H) :
    ReturnsInHanded {} Yba.checked os 3 .any (Rows.lawS4060ATakeSpec.pre6 enc Yba.prog Yba.f3 Rows.lawS4060ATakeRow.domain false) (Rows.lawS4060ATakeSpec.post enc Yba.prog Yba.f3 false true false false) := by
  refine returnsInHanded_of_change (C := Yba.checked) own started (by kernel_rfl) Yba.func3
    (ChangeSpec.witness6 (enc := enc) (C := Yba.checked) false ⟨#[], #[.slice none 0 0, .int .u8 0, .int .u8 0, .slice none 0 0, .int .i32 0, .int .i64 0, .int .i64 0], []⟩ 8 (by kernel_rfl) (by kernel_rfl) (by kernel_rfl) (by kernel_rfl)) ?_
  intro W base args ds gs before hval0 hW hcnd _
  have hval : ∀ (j : Nat) t v, Yba.f3.params[j]? = some t → args[j]? = some v → Value.okWide Yba.prog W .any base t v := hval0
  have hW' := hW
  obtain ⟨p, q, hA0, hV, rfl, hfz, hnd⟩ := hW
  have hA : DataW.TrodAll enc Yba.prog W 0 (fun _ => true) true Yba.f3.params.toList args.toList ds p := hA0
  rw [Yba.params3] at hA hval
  obtain ⟨v0, vs0, d0, ds0, p0, q0, hargs0, rfl, rfl, h0, r0⟩ := trodAll_cons hA
  obtain ⟨v1, vs1, d1, ds1, p1, q1, hargs1, rfl, rfl, h1, r1⟩ := trodAll_cons r0
  obtain ⟨v2, vs2, d2, ds2, p2, q2, hargs2, rfl, rfl, h2, r2⟩ := trodAll_cons r1
  obtain ⟨v3, vs3, d3, ds3, p3, q3, hargs3, rfl, rfl, h3, r3⟩ := trodAll_cons r2
  obtain ⟨v4, vs4, d4, ds4, p4, q4, hargs4, rfl, rfl, h4, r4⟩ := trodAll_cons r3
  obtain ⟨v5, vs5, d5, ds5, p5, q5, hargs5, rfl, rfl, h5, r5⟩ := trodAll_cons r4
  obtain ⟨v6, vs6, d6, ds6, p6, q6, hargs6, rfl, rfl, h6, r6⟩ := trodAll_cons r5
  obtain ⟨rfl, rfl, rfl⟩ := trodAll_nil r6
  obtain rfl : args = #[v0, v1, v2, v3, v4, v5, v6] := by cases args; simp_all
  obtain ⟨rfl, rfl⟩ := trodVars_none hV
  obtain ⟨a0, len0, cap0, rfl⟩ := okWide_slice Yba.underlying22 (hval 0 22 v0 rfl rfl)
  obtain ⟨a3, len3, cap3, rfl⟩ := okWide_slice Yba.underlying23 (hval 3 23 v3 rfl rfl)
  obtain ⟨kr, rfl, rfl, rfl, w1⟩ := open_int Yba.underlying5 (hval 1 5 v1 rfl rfl) h1
  obtain ⟨kn, rfl, rfl, rfl, w2⟩ := open_int Yba.underlying5 (hval 2 5 v2 rfl rfl) h2
  obtain ⟨now, rfl, rfl, rfl, w4⟩ := open_int Yba.underlying21 (hval 4 21 v4 rfl rfl) h4
  obtain ⟨size, rfl, rfl, rfl, w5⟩ := open_int Yba.underlying3 (hval 5 3 v5 rfl rfl) h5
  obtain ⟨bytes, rfl, rfl, rfl, w6⟩ := open_int Yba.underlying3 (hval 6 3 v6 rfl rfl) h6
  have k0 := h0
  have k3 := h3
  have lt0 : ∀ x ∈ p0, x.block < W.heap.size := by obtain ⟨m, hm⟩ := k0; exact DataW.trod_lt m _ _ _ hm
  have lt3 : ∀ x ∈ p3, x.block < W.heap.size := by obtain ⟨m, hm⟩ := k3; exact DataW.trod_lt m _ _ _ hm
  obtain ⟨es, hE⟩ : ∃ es, ReadsE W a0 len0 es := by
    obtain ⟨fuel, hf⟩ := h0
    exact ents_of_trod hf
  obtain ⟨pre, hP⟩ : ∃ pre, ReadsW W a3 len3 pre := by
    obtain ⟨fuel, hf⟩ := h3
    exact waits_of_trod hf
  clear hA0 hval0
  refine (walk a0 a3 len0 cap0 len3 cap3 kr kn now size bytes es pre W (wf_u8 w1) (wf_u8 w2) (wf_i32 w4) hE hP).mono fun e W' ⟨he, bel⟩ => ?_
  subst he
  exact ⟨_, rfl, _, _, _, [], _, [], hW', trodAll_mk1 (shut_bool Yba.underlying4 _), (trodAll_cons_mk (Below.trod laidOut (by kernel_rfl) (of_decide_eq_true (by kernel_rfl)) k0 bel lt0) (trodAll_cons_mk (shut_int Yba.underlying5 w1) (trodAll_cons_mk (shut_int Yba.underlying5 w2) (trodAll_cons_mk (Below.trod laidOut (by kernel_rfl) (of_decide_eq_true (by kernel_rfl)) k3 bel lt3) (trodAll_cons_mk (shut_int Yba.underlying21 w4) (trodAll_cons_mk (shut_int Yba.underlying3 w5) (trodAll_cons_mk (shut_int Yba.underlying3 w6) trodAll_mk0))))))), rfl, bel.frame _, fun h => by cases h⟩

theorem over : Rows.lawS4060ATakeRow.holds Yba.pinned (OpenSpec.ofChange Rows.lawS4060ATakeSpec) :=
  OpenClaim.holds_of_wide 3 Yba.f3 rfl rfl rfl rfl rfl rfl rfl ⟨rfl, rfl, rfl, rfl, rfl⟩ rfl rfl rfl rfl rfl (by kernel_rfl) Yba.func3 (by kernel_rfl)
    (of_decide_eq_true (by kernel_rfl)) (by unfold Func.isWrapper; first | (rw [if_pos (by decide +kernel)]; kernel_rfl) | (rw [if_neg (by decide +kernel)]; exact ⟨rfl, rfl⟩))
    (fun os started H enc _ => lifted os started H enc)

/-- ████ THE STATEMENT ████ -/
theorem proved : Rows.LawS4060ATakeSaid := over
end Go.Proofs.Ybulkcfbe.lawS4060ATake
