/- (*pit).removed. -/
import Derived.Test.YbulkcfbeForget
import Derived.BigRegion
namespace Go.Proofs.Ybulkcfbe.pd
open Go.ChangeShapes Go.WideShapes Go.ChangeAt Go.RowKit
open Go.Proofs.Ybulkcfbe.tm Go.Proofs.Ybulkcfbe.sm
open Go.ChangeMaps (setBlock)
set_option linter.unusedVariables false
theorem info55 : (Yba.prog.info? 55).map (fun i => (i.zero, i.size, i.bytes)) = some (some (.agg #[.int .u64 0, .int .u64 0, .pointer none, .int .u16 0, .int .u64 0, .int .i64 0, .pointer none, .slice none 0 0]), 8, 80) := by kernel_rfl
theorem info_of {t : TypeId} {z : Value} {s b : Nat} (h : (Yba.prog.info? t).map (fun i => (i.zero, i.size, i.bytes)) = some (some z, s, b)) : ∃ i, Yba.prog.info? t = some i ∧ i.zero = some z ∧ i.size = s ∧ i.bytes = b := by
  cases hi : Yba.prog.info? t with
  | none => rw [hi] at h; cases h
  | some i => rw [hi] at h; simp at h; exact ⟨i, rfl, h.1, h.2.1, h.2.2⟩
def tmC (d : Int) : Array Value := #[.int .u64 (d % 1000000000), .int .i64 (d / 1000000000), .pointer none]
theorem before' (a b : Int) (w : World) : Calls Yba.prog 24 #[.agg #[.int .u64 (a % 1000000000), .int .i64 (a / 1000000000), .pointer none], .agg #[.int .u64 (b % 1000000000), .int .i64 (b / 1000000000), .pointer none]] w fun e w' => e = .returned (.bool (decide (a < b))) ∧ ∃ o1 o2, w' = (w.alloc o1).alloc o2 := before a b w
/-- The block of a row of waits is no block of another kind. -/
theorem own_ne {w : World} {base n : Nat} {v : Value} {xs : List Value} (h : w.ownsRow base 55 8 v n xs) {k : Nat} (hk : Value.ownBlock v = some k) : base ≤ k ∧ ∃ cur, w.heap[k]? = some (.cells cur 55 (0, 0)) := by
  rcases h.2 with ⟨h1, _⟩ | ⟨g, cap, cur, hv, hb, hh, _⟩
  · rw [h1] at hk; cases hk
  · rw [hv] at hk
    simp [Value.ownBlock] at hk
    subst hk
    exact ⟨hb, cur, hh⟩
theorem new_cell (w : World) (c : Array Value) (t : TypeId) (j : Nat) (u : Value) (h : c.toList[j]? = some u) : (w.alloc (.cells c t)).cell? ((⟨w.heap.size, 0, none⟩ : Addr).add j) = some u := by
  have h1 : (w.alloc (.cells c t)).heap[w.heap.size]? = some (.cells c t (0, 0)) := by
    show (w.heap.push _)[w.heap.size]? = _
    simp
  have h2 : c[j]? = some u := by simpa using h
  have h3 : ∀ o : Nat, (w.alloc (.cells c t)).cell? ⟨w.heap.size, o, none⟩ = c[o]? := fun o => by
    unfold World.cell?
    rw [h1]
    rfl
  by_cases e : j = 0
  · subst e
    exact (h3 0).trans h2
  · have : (⟨w.heap.size, 0, none⟩ : Addr).add j = ⟨w.heap.size, j, none⟩ := by simp [Addr.add, e]
    rw [this]
    exact (h3 j).trans h2
/-- The loop of (*pit).removed: b bytes left, the waits l appended; X is the box of now. -/
structure RemSt (B E T g X base n : Nat) (hm size cap bcap now : Int) (xs : List Value) (ws : List Pend) (W1 : World) (b : Int) (l : List Pend) (v : Value) (wr : World) : Prop where
  own : wr.ownsRow base 55 8 v (n + l.length) (xs ++ flat l)
  t : wr.heap[B]? = some (.cells (pitC E T hm size cap bcap b) 39 (0, 0))
  box : wr.heap[X]? = some (.cells (tmC now) 37 (0, 0))
  row : Row wr g ws
  kept : Kept (fun j => j = B ∨ base ≤ j) W1 wr
  mapT : ∃ es clock, wr.heap[T]? = some (.map es clock) ∧ W1.heap[T]? = some (.map es clock)
section
variable {B E T g X base n : Nat} {hm size cap bcap now : Int} {xs : List Value} {ws : List Pend} {W1 : World} {b : Int} {l : List Pend} {v : Value} {wr : World}
theorem RemSt.store (h : RemSt B E T g X base n hm size cap bcap now xs ws W1 b l v wr) {W2 : World} {b' : Int} (hK : Kept (fun j => j = B) wr W2) (hB : W2.heap[B]? = some (.cells (pitC E T hm size cap bcap b') 39 (0, 0))) :
    RemSt B E T g X base n hm size cap bcap now xs ws W1 b' l v W2 := by
  have ne : ∀ {k : Nat} {o : Obj}, wr.heap[k]? = some o → (∀ c t f, o = .cells c t f → t ≠ 39) → W2.heap[k]? = some o := fun {k o} hk ho => by
    rw [hK.block k (lt_heap hk) ?_]; exact hk
    intro e
    subst e
    rw [h.t] at hk
    cases hk
    exact ho _ _ _ rfl rfl
  refine ⟨?_, hB, ne h.box (fun c t f e => by cases e; decide), ?_, h.kept.trans (hK.mono fun k _ e => .inl e), ?_⟩
  · refine ⟨h.own.1, ?_⟩
    rcases h.own.2 with h2 | ⟨g', cap', cur, hv, hg, hh, r⟩
    · exact .inl h2
    · exact .inr ⟨g', cap', cur, hv, hg, ne hh (fun c t f e => by cases e; decide), r⟩
  · obtain ⟨cur, h1, h2⟩ := h.row
    exact ⟨cur, ne h1 (fun c t f e => by cases e; decide), h2⟩
  · obtain ⟨es, clock, h1, h2⟩ := h.mapT
    exact ⟨es, clock, ne h1 (fun c t f e => by cases e), h2⟩
theorem RemSt.append (h : RemSt B E T g X base n hm size cap bcap now xs ws W1 b l v wr) (hg : g < base) (hW : base ≤ W1.heap.size) {o : Obj} {W3 : World} {v' : Value} {q : Pend} (hown : W3.ownsRow base 55 8 v' (n + l.length + 1) (xs ++ flat l ++ q.cells)) (hgr : (wr.alloc o).grownBy W3 v.ownBlock) :
    RemSt B E T g X base n hm size cap bcap now xs ws W1 b (l ++ [q]) v' W3 := by
  have ne : ∀ {k : Nat} {o : Obj}, wr.heap[k]? = some o → ((∀ c t f, o = .cells c t f → t ≠ 55) ∨ k < base) → W3.heap[k]? = some o := fun {k o} hk ho => by
    rw [hgr.block k (by have := lt_heap hk; simp; omega) ?_, Below.heap_alloc _ _ _ (lt_heap hk)]; exact hk
    intro e
    obtain ⟨hb, cur, hh⟩ := own_ne h.own e.symm
    rcases ho with ho | ho
    · rw [hh] at hk
      cases hk
      exact ho _ _ _ rfl rfl
    · omega
  refine ⟨?_, ne h.t (.inl fun c t f e => by cases e; decide), ne h.box (.inl fun c t f e => by cases e; decide), ?_, ?_, ?_⟩
  · have e1 : n + (l ++ [q]).length = n + l.length + 1 := by simp; omega
    have e2 : xs ++ flat (l ++ [q]) = xs ++ flat l ++ q.cells := by rw [flat_append, List.append_assoc]; simp [flat]
    rw [e1, e2]
    exact hown
  · obtain ⟨cur, h1, h2⟩ := h.row
    exact ⟨cur, ne h1 (.inr hg), h2⟩
  · refine (h.kept.alloc o).grown hgr fun k e => ?_
    exact .inl (.inr (own_ne h.own e).1)
  · obtain ⟨es, clock, h1, h2⟩ := h.mapT
    exact ⟨es, clock, ne h1 (.inl fun c t f e => by cases e), h2⟩
end
structure Removed (B E T base n : Nat) (hm size cap bcap bytes now : Int) (rnp : ByteArray) (xs : List Value) (ws : List Pend) (es : Array MapEntry) (v : Value) (w w' : World) : Prop where
  own : w'.ownsRow base 55 8 v (n + (live now ws).length) (xs ++ flat (live now ws))
  t : w'.heap[B]? = some (.cells (pitC E T hm (wrap64 (size - 1)) cap bcap (bytesOf bytes ws)) 39 (0, 0))
  map : ∃ es' clock', w'.heap[T]? = some (.map es' clock') ∧ StrKeys es'.toList ∧ (∀ k, lookS es'.toList k = if rnp ≠ ⟨#[]⟩ ∧ k = rnp then none else lookS es.toList k) ∧
      es'.size = es.size - (if rnp ≠ ⟨#[]⟩ ∧ (lookS es.toList rnp).isSome then 1 else 0)
  kept : Kept (fun k => k = B ∨ k = T ∨ base ≤ k) w w'
set_option maxRecDepth 100000 in
set_option maxHeartbeats 3200000 in
/-- (*pit).removed. -/
theorem removed (B E T g c clock base n : Nat) (hm size cap bcap bytes now : Int) (rnp : ByteArray) (xs : List Value) (ws : List Pend) (es : Array MapEntry) (v : Value) (w : World) (ht : w.heap[B]? = some (.cells (pitC E T hm size cap bcap bytes) 39 (0, 0))) (hT : w.heap[T]? = some (.map es clock)) (hg : StrKeys es.toList)
    (hrow : Row w g ws) (hgb : g < base) (hbw : base ≤ w.heap.size) (hown : w.ownsRow base 55 8 v n xs) (hlen : n + ws.length ≤ 100000) :
    Calls Yba.prog 15 #[.pointer (some ⟨B, 0, none⟩), v, entV g ws.length c rnp, .agg #[.int .u64 (now % 1000000000), .int .i64 (now / 1000000000), .pointer none]] w fun e w' => ∃ v', e = .returned v' ∧ Removed B E T base n hm size cap bcap bytes now rnp xs ws es v' w w' := by
  obtain ⟨i0, hi, hz0, hz1, hz2⟩ := info_of info55
  have lB := lt_heap ht
  have lT := lt_heap hT
  have HW : Hid (∀ o1 o2, ((w.alloc o1).alloc o2).heap[B]? = some (.cells (pitC E T hm size cap bcap bytes) 39 (0, 0)) ∧ ((w.alloc o1).alloc o2).heap[T]? = some (.map es clock)) := fun o1 o2 => by
    constructor
    · rw [Below.heap_alloc _ _ _ (by simp; omega), Below.heap_alloc _ _ _ lB]; exact ht
    · rw [Below.heap_alloc _ _ _ (by simp; omega), Below.heap_alloc _ _ _ lT]; exact hT
  have HG : Hid (StrKeys es.toList) := hg
  have HR : Hid (Row w g ws) := hrow
  have HO : Hid (w.ownsRow base 55 8 v n xs) := hown
  have HBT : Hid (w.heap[B]? = some (.cells (pitC E T hm size cap bcap bytes) 39 (0, 0)) ∧ w.heap[T]? = some (.map es clock)) := ⟨ht, hT⟩
  clear ht hT hg hrow hown lB lT
  unfold entV
  go_enter Yba.func15, Yba.ntmps15
  go_wp2_with fail
  refine (forget B E T g ws.length c clock hm size cap bcap bytes rnp es _ (HW.out _ _).1 (HW.out _ _).2 HG.out).mono ?_
  rintro _ W1 ⟨rfl, hF⟩
  obtain ⟨O1, hO1⟩ : ∃ O1 : Obj, O1 = .cells #[.slice (some ⟨g, 0, none⟩) ws.length c, .int .u8 0, .slice none 0 0, .string rnp] 59 := ⟨_, rfl⟩
  obtain ⟨O2, hO2⟩ : ∃ O2 : Obj, O2 = .cells #[.int .u64 (now % 1000000000), .int .i64 (now / 1000000000), .pointer none] 37 := ⟨_, rfl⟩
  rw [← hO1, ← hO2] at hF
  have b0 : ((w.alloc O1).alloc O2).heap[w.heap.size]? = some O1 := by
    rw [Below.heap_alloc _ _ _ (by simp)]
    show (w.heap.push _)[w.heap.size]? = _
    simp
  have b1 : ((w.alloc O1).alloc O2).heap[w.heap.size + 1]? = some O2 := by
    show ((w.alloc O1).heap.push _)[w.heap.size + 1]? = _
    rw [Array.getElem?_push, if_pos (by simp)]
  have nb : ∀ k, w.heap.size ≤ k → ¬ (k = B ∨ k = T) := fun k hk e => by
    have h1 := lt_heap HBT.out.1
    have h2 := lt_heap HBT.out.2
    omega
  have k0 := (hF.kept.block w.heap.size (by simp; omega) (nb _ (Nat.le_refl _))).trans b0
  have k1 := (hF.kept.block (w.heap.size + 1) (by simp) (nb _ (by omega))).trans b1
  have c0 : W1.cell? ⟨w.heap.size, 0, none⟩ = some (.slice (some ⟨g, 0, none⟩) ws.length c) := by simp [World.cell?, k0, hO1]
  have hS : RemSt B E T g (w.heap.size + 1) base n hm (wrap64 (size - 1)) cap bcap now xs ws W1 (bytesOf bytes (ws.take 0)) (live now (ws.take 0)) v W1 := by
    refine ⟨?_, hF.t, ?_, ?_, Kept.refl _ _, ?_⟩
    · have h0 := (HO.out.alloc O1).alloc O2
      refine ⟨by simpa [live, flat] using h0.1, ?_⟩
      rcases h0.2 with h2 | ⟨g', cap', cur, hv, hg', hh, r⟩
      · exact .inl (by simpa [live, flat] using h2)
      · refine .inr ⟨g', cap', cur, hv, hg', ?_, by simpa [live, flat] using r⟩
        rw [hF.kept.block g' (lt_heap hh) ?_]; exact hh
        intro e
        rcases e with rfl | rfl
        · rw [(HW.out O1 O2).1] at hh; cases hh
        · rw [(HW.out O1 O2).2] at hh; cases hh
    · rw [k1, hO2]; rfl
    · obtain ⟨cur, h1, h2⟩ := HR.out
      have lg := lt_heap h1
      have h1' : ((w.alloc O1).alloc O2).heap[g]? = some (.cells cur 55 (0, 0)) := by rw [Below.heap_alloc _ _ _ (by simp; omega), Below.heap_alloc _ _ _ lg]; exact h1
      refine ⟨cur, (hF.kept.block g (by simp; omega) ?_).trans h1', h2⟩
      intro e
      rcases e with rfl | rfl
      · rw [HBT.out.1] at h1; cases h1
      · rw [HBT.out.2] at h1; cases h1
    · obtain ⟨es', clock', hm', _⟩ := hF.map
      exact ⟨es', clock', hm', hm'⟩
  have HF : Hid (Forgot B E T hm size cap bcap bytes rnp es ((w.alloc O1).alloc O2) W1) := hF
  have HS : Hid (RemSt B E T g (w.heap.size + 1) base n hm (wrap64 (size - 1)) cap bcap now xs ws W1 (bytesOf bytes (ws.take 0)) (live now (ws.take 0)) v W1) := hS
  have HSZ : Hid (w.heap.size + 2 ≤ W1.heap.size) := by have := hF.kept.size; simp at this; exact this
  clear hF hS b0 b1 k0 k1 nb hO1 hO2 HW HO HR HBT HG
  go_wp2_with fail
  clear c0
  go_loopw [1, 17] (fun v i wr => ∃ (k : Nat), k ≤ ws.length ∧ i = .int .i64 k ∧ RemSt B E T g (w.heap.size + 1) base n hm (wrap64 (size - 1)) cap bcap now xs ws W1 (bytesOf bytes (ws.take k)) (live now (ws.take k)) v wr) (fun _ i _ => ws.length - (intOf i).toNat)
  case atStart => exact ⟨0, by omega, rfl, HS.out⟩
  case round =>
    obtain ⟨k, hk, rfl, hS⟩ := hrel
    have HSr : Hid (RemSt B E T g (w.heap.size + 1) base n hm (wrap64 (size - 1)) cap bcap now xs ws W1 (bytesOf bytes (ws.take k)) (live now (ws.take k)) u1 wr) := hS
    by_cases hlt : k < ws.length
    · obtain ⟨q, hq⟩ : ∃ q, ws[k]? = some q := ⟨_, List.getElem?_eq_getElem hlt⟩
      have r0 := hS.row.cell hq (j := 0) (by omega)
      have r1 := hS.row.cell hq (j := 1) (by omega)
      have r2 := hS.row.cell hq (j := 2) (by omega)
      have r3 := hS.row.cell hq (j := 3) (by omega)
      have r4 := hS.row.cell hq (j := 4) (by omega)
      have r5 := hS.row.cell hq (j := 5) (by omega)
      have r6 := hS.row.cell hq (j := 6) (by omega)
      have r7 := hS.row.cell hq (j := 7) (by omega)
      simp only [Pend.cells, Nat.add_zero, List.getElem?_cons_zero, List.getElem?_cons_succ] at r0 r1 r2 r3 r4 r5 r6 r7
      have lg := hS.row.lt
      have lB := lt_heap hS.t
      have lX := lt_heap hS.box
      have c6 : wr.cell? ⟨B, 6, none⟩ = some (.int .i64 (bytesOf bytes (ws.take k))) := by simp [World.cell?, hS.t, pitC]
      have f6 : wr.frozen? ⟨B, 6, none⟩ = false := by simp [World.frozen?, hS.t]
      have x0 : wr.cell? ⟨w.heap.size + 1, 0, none⟩ = some (.int .u64 (now % 1000000000)) := by simp [World.cell?, hS.box, tmC]
      have x1 : wr.cell? ⟨w.heap.size + 1, 1, none⟩ = some (.int .i64 (now / 1000000000)) := by simp [World.cell?, hS.box, tmC]
      have x2 : wr.cell? ⟨w.heap.size + 1, 2, none⟩ = some (.pointer none) := by simp [World.cell?, hS.box, tmC]
      have HQ : Hid (ws[k]? = some q) := hq
      obtain ⟨bk, hbk⟩ : ∃ bk, bk = bytesOf bytes (ws.take k) := ⟨_, rfl⟩
      rw [← hbk] at c6
      have HBK : Hid (bk = bytesOf bytes (ws.take k)) := hbk
      clear hS hq hbk
      go_upto_region 5 with fail
      go_region
      go_wp2_with fail
      refine (before' now q.x _).mono ?_
      rintro _ w2 ⟨rfl, o1, o2, hw2⟩
      obtain ⟨PB, hPB⟩ : ∃ PB : Obj, PB = .cells #[.int .u64 0, .int .u64 0, .pointer none, .int .u16 q.p, .int .u64 (q.x % 1000000000), .int .i64 (q.x / 1000000000), .pointer none, .slice (some ⟨q.g, 0, none⟩) q.l q.l] 55 := ⟨_, rfl⟩
      rw [← hPB] at hw2
      have sz0 : (wr.setCell ⟨B, 6, none⟩ (.int .i64 (wrap64 (bk - q.l)))).heap.size = wr.heap.size := by simp [World.setCell]
      have hsz : w2.heap.size = wr.heap.size + 3 := by rw [hw2]; simp [sz0]
      have hK : Kept (fun j => j = B) wr w2 := by
        rw [hw2]
        exact ((((Kept.refl (fun j => j = B) wr).setCell (g := B) (.inl rfl) _).alloc PB).drew.alloc o1).alloc o2
      have hbB : w2.heap[B]? = some (.cells (pitC E T hm (wrap64 (size - 1)) cap bcap (bytesOf bytes (ws.take (k + 1)))) 39 (0, 0)) := by
        have h1 : ((wr.setCell ⟨B, 6, none⟩ (.int .i64 (wrap64 (bk - q.l)))).heap)[B]? = some (.cells (pitC E T hm (wrap64 (size - 1)) cap bcap (wrap64 (bk - q.l))) 39 (0, 0)) := by
          rw [block_set _ HSr.out.t]; rfl
        rw [List.take_add_one, HQ.out, Option.toList_some, bytesOf_snoc, ← HBK.out, hw2, Below.heap_alloc _ _ _ (by simp [sz0]; omega)]
        show ((((wr.setCell ⟨B, 6, none⟩ _).alloc PB).drew).alloc o1).heap[B]? = _
        rw [Below.heap_alloc _ _ _ (by simp [sz0]; omega)]
        show ((wr.setCell ⟨B, 6, none⟩ _).alloc PB).heap[B]? = _
        rw [Below.heap_alloc _ _ _ (by rw [sz0]; exact lB)]
        exact h1
      have hPb : w2.heap[wr.heap.size]? = some PB := by
        rw [hw2, Below.heap_alloc _ _ _ (by simp [sz0]; omega)]
        show ((((wr.setCell ⟨B, 6, none⟩ _).alloc PB).drew).alloc o1).heap[wr.heap.size]? = _
        rw [Below.heap_alloc _ _ _ (by simp [sz0])]
        show ((wr.setCell ⟨B, 6, none⟩ _).heap.push PB)[wr.heap.size]? = _
        rw [Array.getElem?_push, if_pos sz0.symm]
      have hS2 := HSr.out.store hK hbB
      have HS2 : Hid (RemSt B E T g (w.heap.size + 1) base n hm (wrap64 (size - 1)) cap bcap now xs ws W1 (bytesOf bytes (ws.take (k + 1))) (live now (ws.take k)) u1 w2) := hS2
      have HLV : Hid (live now (ws.take (k + 1)) = live now (ws.take k) ++ (if now < q.x then [q] else [])) := by
        show _ = _
        rw [List.take_add_one, HQ.out, Option.toList_some, live_snoc]
      have y0 : w2.cell? ⟨wr.heap.size, 0, none⟩ = some (.int .u64 0) := by simp [World.cell?, hPb, hPB]
      have y1 : w2.cell? ⟨wr.heap.size, 1, none⟩ = some (.int .u64 0) := by simp [World.cell?, hPb, hPB]
      have y2 : w2.cell? ⟨wr.heap.size, 2, none⟩ = some (.pointer none) := by simp [World.cell?, hPb, hPB]
      have y3 : w2.cell? ⟨wr.heap.size, 3, none⟩ = some (.int .u16 q.p) := by simp [World.cell?, hPb, hPB]
      have y4 : w2.cell? ⟨wr.heap.size, 4, none⟩ = some (.int .u64 (q.x % 1000000000)) := by simp [World.cell?, hPb, hPB]
      have y5 : w2.cell? ⟨wr.heap.size, 5, none⟩ = some (.int .i64 (q.x / 1000000000)) := by simp [World.cell?, hPb, hPB]
      have y6 : w2.cell? ⟨wr.heap.size, 6, none⟩ = some (.pointer none) := by simp [World.cell?, hPb, hPB]
      have y7 : w2.cell? ⟨wr.heap.size, 7, none⟩ = some (.slice (some ⟨q.g, 0, none⟩) q.l q.l) := by simp [World.cell?, hPb, hPB]
      have hll : (live now (ws.take k)).length ≤ k := by
        have := List.length_filter_le (fun q : Pend => decide (now < q.x)) (ws.take k)
        unfold live
        simp at this ⊢
        omega
      have HWB : Hid (base ≤ W1.heap.size) := by have := HSZ.out; show _ ≤ _; omega
      have HW2 : Hid (base ≤ w2.heap.size) := by have := HSr.out.kept.size; have := HSZ.out; show _ ≤ _; omega
      have hly : wr.heap.size < w2.heap.size := by omega
      clear hw2 hPB hPb hS2 hK hbB sz0 hsz r0 r1 r2 r3 r4 r5 r6 r7 c6 f6 x0 x1 x2 lg lB lX
      by_cases hx : now < q.x
      · obtain ⟨L, hL⟩ : ∃ L, L = live now (ws.take k) := ⟨_, rfl⟩
        rw [← hL] at HS2 HLV hll
        clear hL
        go_wp2_with (at_builtin; go_must (refine wpList_append_own _ rfl _ _ 40 rfl base 55 i0 _ 8 80 Yba.underlying40 hi hz0 hz1 hz2 rfl (by decide) u1 (n + L.length) (xs ++ flat L) rfl (HS2.out.own.alloc _) ⟨w2.heap.size, 0, none⟩ 1 1 q.cells rfl rfl (fun j u h => new_cell w2 _ 55 j u h) (fun u hu => flat_oneCell [q] u (by simpa [flat] using hu)) (by unfold maxLen; omega) (by omega) (by have := HW2.out; simp; omega) ?_); intro v' W3 hown3 hgr3 hnil3)
        have hS3 := HS2.out.append hgb HWB.out hown3 hgr3
        have e := HLV.out
        rw [if_pos hx] at e
        rw [← e] at hS3
        go_roundw
        case rel => exact ⟨k + 1, by omega, by go_num, hS3⟩
        case measure => simp [intOf]; omega
      · have HR2 : Hid (RemSt B E T g (w.heap.size + 1) base n hm (wrap64 (size - 1)) cap bcap now xs ws W1 (bytesOf bytes (ws.take (k + 1))) (live now (ws.take (k + 1))) u1 w2) := by
          have e := HLV.out
          rw [if_neg hx, List.append_nil] at e
          show RemSt B E T g (w.heap.size + 1) base n hm (wrap64 (size - 1)) cap bcap now xs ws W1 (bytesOf bytes (ws.take (k + 1))) (live now (ws.take (k + 1))) u1 w2
          rw [e]
          exact HS2.out
        go_wp2
        go_roundw
        case rel => exact ⟨k + 1, by omega, by go_num, HR2.out⟩
        case measure => simp [intOf]; omega
    · obtain rfl : k = ws.length := by omega
      go_wp2
      go_ret
      have hS := HSr.out
      rw [List.take_length] at hS
      exact ⟨_, rfl, hS.own, hS.t, by
        obtain ⟨es', clock', h1, h2⟩ := hS.mapT
        obtain ⟨es1, clock1, g1, g2, g3, g4⟩ := HF.out.map
        rw [g1] at h2
        cases h2
        exact ⟨_, _, h1, g2, g3, g4⟩, by
        have a1 : Kept (fun k => k = B ∨ k = T ∨ base ≤ k) w W1 := ((Kept.refl _ w).alloc O1).alloc O2 |>.trans (HF.out.kept.mono fun j _ e => by rcases e with e | e; exact .inl e; exact .inr (.inl e))
        exact a1.trans (hS.kept.mono fun j _ e => by rcases e with e | e; exact .inl e; exact .inr (.inr e))⟩
end Go.Proofs.Ybulkcfbe.pd
