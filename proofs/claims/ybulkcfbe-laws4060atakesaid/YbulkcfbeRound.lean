/- A round of the law's second loop, and the rows of waits that it makes: what lies where. -/
import Derived.Test.YbulkcfbeTab
import Derived.Deep.DeepAppendRoom
namespace Go.Proofs.Ybulkcfbe.tab
open Go.ChangeShapes Go.WideShapes Go.ChangeAt Go.RowKit
open Go.Proofs.Ybulkcfbe.tm Go.Proofs.Ybulkcfbe.sm Go.Proofs.Ybulkcfbe.pd
open Go.ChangeMaps (setBlock)
set_option linter.unusedVariables false
/-- One entry of the law's data. -/
structure Dt where
  r : Nat
  n : Nat
  rnp : Bool
  a : Option Addr
  len : Nat
  c : Nat
  ws : List Wt
structure ReadsE (w : World) (a : Option Addr) (n : Nat) (ds : List Dt) : Prop where
  len : ds.length = n
  at_ : ∀ (i : Nat) (d : Dt), ds[i]? = some d → ∃ b o, a = some ⟨b, o, none⟩ ∧ b < w.heap.size ∧ w.cell? ⟨b, o + i * 4, none⟩ = some (.int .u8 d.r) ∧ w.cell? ⟨b, o + i * 4 + 1, none⟩ = some (.int .u8 d.n) ∧ w.cell? ⟨b, o + i * 4 + 2, none⟩ = some (.bool d.rnp) ∧ w.cell? ⟨b, o + i * 4 + 3, none⟩ = some (.slice d.a d.len d.c) ∧
    d.r ≤ 255 ∧ d.n ≤ 255 ∧ ReadsW w d.a d.len d.ws
/-- A row of waits being filled; it lies in the first block behind W. -/
structure Fill (W : World) (cap j : Nat) (L : List Pend) (wq : World) : Prop where
  bel : Below W.heap.size W wq
  own : wq.ownsRow W.heap.size 55 8 (.slice (some ⟨W.heap.size, 0, none⟩) j cap) j (flat L)
theorem Fill.start {W w' : World} {cap : Nat} (h : w'.ownsRow W.heap.size 55 8 (.slice (some ⟨W.heap.size, 0, none⟩) 0 cap) 0 []) (hg : W.grownBy w' none) : Fill W cap 0 [] w' :=
  ⟨(Below.refl _ _).grown hg (Nat.le_refl _) (fun k hk => by cases hk), h⟩
theorem Fill.lt {W wq : World} {cap j : Nat} {L : List Pend} (h : Fill W cap j L wq) : W.heap.size < wq.heap.size := (h.own.lt _ rfl).2
theorem owns_block {w w' : World} {base g n cap : Nat} {xs : List Value} (h : w.ownsRow base 55 8 (.slice (some ⟨g, 0, none⟩) n cap) n xs) (hb : w'.heap[g]? = w.heap[g]?) : w'.ownsRow base 55 8 (.slice (some ⟨g, 0, none⟩) n cap) n xs := by
  refine ⟨h.1, ?_⟩
  rcases h.2 with ⟨h0, _⟩ | ⟨g', cap', cur, hv, a1, a2, a3⟩
  · cases h0
  · cases hv
    exact .inr ⟨g, cap, cur, rfl, a1, hb.trans a2, a3⟩
theorem Fill.kept {W wq w2 : World} {cap j : Nat} {L : List Pend} (h : Fill W cap j L wq) (hb : Below wq.heap.size wq w2) : Fill W cap j L w2 :=
  ⟨h.bel.trans (hb.mono (Nat.le_of_lt h.lt)), owns_block h.own (hb.block _ h.lt)⟩
theorem Fill.next {W wq W3 : World} {cap j : Nat} {L : List Pend} {q : Pend} {o : Obj} (h : Fill W cap j L wq) (hown : W3.ownsRow W.heap.size 55 8 (.slice (some ⟨W.heap.size, 0, none⟩) (j + 1) cap) (j + 1) (flat L ++ q.cells)) (hgr : (wq.alloc o).grownBy W3 (some W.heap.size)) : Fill W cap (j + 1) (L ++ [q]) W3 := by
  refine ⟨(h.bel.alloc (Nat.le_of_lt h.lt) o).grown hgr (by have := h.lt; simp; omega) (fun k hk => by cases hk; exact Nat.le_refl _), ?_⟩
  rw [flat_append, show flat [q] = q.cells from by simp [flat]]
  exact hown
theorem Fill.row {W wq : World} {cap j : Nat} {L : List Pend} (h : Fill W cap j L wq) : Row wq W.heap.size L := Row.of_owns h.own
theorem take_snoc_map {ws : List Wt} {L : List Pend} {j g : Nat} {q : Wt} (h : L.map wtOf = ws.take j) (hq : ws[j]? = some q) : (L ++ [(⟨q.p, q.x, q.l, g⟩ : Pend)]).map wtOf = ws.take (j + 1) := by
  rw [List.map_append, h, List.take_add_one, hq]
  rfl
/-- The entry's place is marked. -/
structure Marked (B s : Nat) (S : Nat → Option Slot) (d : Dt) (wr W : World) : Prop where
  kept : Kept (fun k => k = B + 2 ∨ k = B + 3 ∨ k = B + 4) wr W
  pres : W.heap[B + 2]? = some (.cells ((presA S).setIfInBounds s (.bool true)) 28 (0, 0))
  model : W.heap[B + 3]? = some (.cells ((modelA S).setIfInBounds s (.slice d.a d.len d.c)) 29 (0, 0))
  rnps : W.heap[B + 4]? = some (.cells ((rnpsA S).setIfInBounds s (.bool d.rnp)) 28 (0, 0))
  box : W.heap[wr.heap.size]? = some (.cells #[.int .u8 d.r, .int .u8 d.n, .bool d.rnp, .slice d.a d.len d.c] 25 (0, 0))
theorem Marked.below {B s : Nat} {S : Nat → Option Slot} {d : Dt} {wr W W' : World} (h : Marked B s S d wr W) (hb : Below W.heap.size W W') : Marked B s S d wr W' := by
  have lt : ∀ {b : Nat} {o : Obj}, W.heap[b]? = some o → W'.heap[b]? = some o := fun {b o} hb' => (hb.block b (lt_heap hb')).trans hb'
  exact ⟨h.kept.trans (Kept.of_below hb), lt h.pres, lt h.model, lt h.rnps, lt h.box⟩
theorem Tab.mark {B s : Nat} {w0 wr : World} {S : Nat → Option Slot} {R : Nat → Option Nat} {size bytes : Int} (h : Tab B w0 wr S R size bytes) (d : Dt) :
    Marked B s S d wr ((((wr.setCell ⟨B + 2, s, none⟩ (.bool true)).setCell ⟨B + 3, s, none⟩ (.slice d.a d.len d.c)).setCell ⟨B + 4, s, none⟩ (.bool d.rnp)).alloc (.cells #[.int .u8 d.r, .int .u8 d.n, .bool d.rnp, .slice d.a d.len d.c] 25)) := by
  have l2 := lt_heap h.pres
  have l3 := lt_heap h.model
  have l4 := lt_heap h.rnps
  have sz : ∀ (w : World) (a : Addr) (v : Value), (w.setCell a v).heap.size = w.heap.size := fun w a v => by simp [World.setCell]
  refine ⟨((((Kept.refl (fun k => k = B + 2 ∨ k = B + 3 ∨ k = B + 4) wr).setCell (g := B + 2) (.inl (.inl rfl)) _).setCell (g := B + 3) (.inl (.inr (.inl rfl))) _).setCell (g := B + 4) (.inl (.inr (.inr rfl))) _).alloc _, ?_, ?_, ?_, ?_⟩
  · rw [Below.heap_alloc _ _ _ (by simp only [sz]; exact l2), Below.heap_setCell _ _ _ _ (by simp), Below.heap_setCell _ _ _ _ (by simp)]
    exact block_set _ h.pres
  · rw [Below.heap_alloc _ _ _ (by simp only [sz]; exact l3), Below.heap_setCell _ _ _ _ (by simp)]
    refine block_set _ ?_
    rw [Below.heap_setCell _ _ _ _ (by simp)]
    exact h.model
  · rw [Below.heap_alloc _ _ _ (by simp only [sz]; exact l4)]
    refine block_set _ ?_
    rw [Below.heap_setCell _ _ _ _ (by simp), Below.heap_setCell _ _ _ _ (by simp)]
    exact h.rnps
  · rw [get_push (n := wr.heap.size) (by simp only [sz]), if_pos rfl]
/-- The entry is made, and its template is laid; the box of the entry is X, its row lies in g. -/
structure Half (B s : Nat) (S : Nat → Option Slot) (d : Dt) (g X : Nat) (L : List Pend) (rnp : ByteArray) (hasR : Bool) (wo W : World) : Prop where
  kept : Kept (fun k => k = B + 2 ∨ k = B + 3 ∨ k = B + 4 ∨ k = B + 6) wo W
  pres : W.heap[B + 2]? = some (.cells ((presA S).setIfInBounds s (.bool true)) 28 (0, 0))
  model : W.heap[B + 3]? = some (.cells ((modelA S).setIfInBounds s (.slice d.a d.len d.c)) 29 (0, 0))
  rnps : W.heap[B + 4]? = some (.cells ((rnpsA S).setIfInBounds s (.bool d.rnp)) 28 (0, 0))
  row : Row W g L
  box : W.heap[X]? = some (.cells #[.slice (some ⟨g, 0, none⟩) d.len d.len, .int .u8 0, .slice none 0 0, .string rnp] 59 (0, 0))
  gl : wo.heap.size < g
  Xl : wo.heap.size < X
  tmpl : ∃ es clock, W.heap[B + 6]? = some (.map es clock) ∧ StrKeys es.toList ∧ (lookS es.toList keep).isSome = true ∧ (∀ s', s' < 8 → (lookS es.toList (tS s')).isSome = (if s' = s then hasR else match S s' with | none => false | some e => e.rnp)) ∧ Pl es.toList
theorem Half.start {B s : Nat} {w0 wo W : World} {S : Nat → Option Slot} {R : Nat → Option Nat} {size bytes : Int} {d : Dt} {g : Nat} {L : List Pend} (h : Tab B w0 wo S R size bytes) (hS : S s = none) (hm : Marked B s S d wo W) (hr : Row W g L) (hg : wo.heap.size < g) {nq : Nat} :
    Half B s S d g W.heap.size L ⟨#[]⟩ false wo ((W.alloc (.cells #[.slice (some ⟨g, 0, none⟩) d.len d.len, .int .u8 0, .slice none 0 0, .string ⟨#[]⟩] 59)).drewN nq) := by
  have hb : Below W.heap.size W ((W.alloc (.cells #[.slice (some ⟨g, 0, none⟩) d.len d.len, .int .u8 0, .slice none 0 0, .string ⟨#[]⟩] 59)).drewN nq) := by
    have := (Below.refl W.heap.size W).alloc (Nat.le_refl _) (.cells #[.slice (some ⟨g, 0, none⟩) d.len d.len, .int .u8 0, .slice none 0 0, .string ⟨#[]⟩] 59)
    exact ⟨this.os, this.tape, this.output, this.size, this.block⟩
  have m2 := hm.below hb
  obtain ⟨cur, r1, r2⟩ := hr
  have lX := lt_heap hm.box
  have l7 := lt_heap h.t
  refine ⟨m2.kept.mono (fun k _ x => by rcases x with x | x | x; exact .inl x; exact .inr (.inl x); exact .inr (.inr (.inl x))), m2.pres, m2.model, m2.rnps, ⟨cur, (hb.block g (lt_heap r1)).trans r1, r2⟩, ?_, hg, lX, ?_⟩
  · show (W.heap.push _)[W.heap.size]? = _
    simp
  · obtain ⟨es, clock, a1, a2, a3, a4, a5⟩ := h.tmpl
    refine ⟨es, clock, (m2.kept.block _ (lt_heap a1) (by omega)).trans a1, a2, a3, fun s' hs' => ?_, a5⟩
    rw [a4 s' hs']
    by_cases e : s' = s
    · subst e; simp [hS]
    · rw [if_neg e]; cases S s' <;> rfl
theorem Half.below {B s : Nat} {S : Nat → Option Slot} {d : Dt} {g X : Nat} {L : List Pend} {rnp : ByteArray} {hasR : Bool} {wo W W' : World} (h : Half B s S d g X L rnp hasR wo W) (hb : Below W.heap.size W W') : Half B s S d g X L rnp hasR wo W' := by
  have lt : ∀ {b : Nat} {o : Obj}, W.heap[b]? = some o → W'.heap[b]? = some o := fun {b o} hb' => (hb.block b (lt_heap hb')).trans hb'
  obtain ⟨cur, r1, r2⟩ := h.row
  obtain ⟨es, clock, a1, a2⟩ := h.tmpl
  exact ⟨h.kept.trans (Kept.of_below hb), lt h.pres, lt h.model, lt h.rnps, ⟨cur, lt r1, r2⟩, lt h.box, h.gl, h.Xl, ⟨es, clock, lt a1, a2⟩⟩
/-- The template is laid. -/
theorem Half.lay {B s : Nat} {S : Nat → Option Slot} {d : Dt} {g X : Nat} {L : List Pend} {wo W : World} (h : Half B s S d g X L ⟨#[]⟩ false wo W) (hB : B + 7 < wo.heap.size) {es' : Array MapEntry} {clock' : Nat} {v : Value}
    (hes : ∀ es clock, W.heap[B + 6]? = some (.map es clock) → StrKeys es'.toList ∧ (∀ k, lookS es'.toList k = if k = tS s then some v else lookS es.toList k)) (hs : s < 8) (hvs : ∃ a b, v = .agg #[.string a, .string b]) :
    Half B s S d g X L (tS s) true wo (setBlock (W.setCell ⟨X, 3, none⟩ (.string (tS s))) (B + 6) (.map es' clock')) := by
  have hX := h.Xl
  have hg := h.gl
  have lX := lt_heap h.box
  have sz : (W.setCell ⟨X, 3, none⟩ (.string (tS s))).heap.size = W.heap.size := by simp [World.setCell]
  have blk : ∀ {k : Nat} {o : Obj}, k ≠ B + 6 → k ≠ X → W.heap[k]? = some o → (setBlock (W.setCell ⟨X, 3, none⟩ (.string (tS s))) (B + 6) (.map es' clock')).heap[k]? = some o := fun {k o} h1 h2 hk => by
    rw [setBlock_block, if_neg (fun e => h1 e.symm), Below.heap_setCell _ _ _ _ h2]; exact hk
  obtain ⟨cur, r1, r2⟩ := h.row
  obtain ⟨es, clock, a1, a2, a3, a4, a5⟩ := h.tmpl
  obtain ⟨b1, b2⟩ := hes es clock a1
  have gX : g ≠ X := by intro e; subst e; rw [h.box] at r1; cases r1
  refine ⟨(h.kept.setCell (.inr (by omega)) _).setBlock (.inl (.inr (.inr (.inr rfl)))) _, blk (by omega) (by omega) h.pres, blk (by omega) (by omega) h.model, blk (by omega) (by omega) h.rnps, ⟨cur, blk (by omega) gX r1, r2⟩, ?_, hg, hX, ⟨es', clock', ?_, b1, ?_, ?_, fun k v' hk' => by rw [b2] at hk'; by_cases x : k = tS s; rw [if_pos x] at hk'; cases hk'; exact hvs; rw [if_neg x] at hk'; exact a5 k v' hk'⟩⟩
  · rw [setBlock_block, if_neg (by omega)]
    exact block_set _ h.box
  · rw [setBlock_block, if_pos rfl, if_pos (by rw [sz]; exact lt_heap a1)]
  · rw [b2, if_neg (fun e => tS_keep e.symm)]; exact a3
  · intro s' hs'
    rw [b2]
    by_cases e : s' = s
    · subst e; simp
    · rw [if_neg (fun x => e (tS_inj hs' hs x)), a4 s' hs']
      simp [e]
theorem eqlSome (m : Nat) (w : World) : (binOp .eql 61 (.map (some m)) (.map none)).run Yba.prog w = .ok (.bool false) w := by kernel_rfl
theorem eqlNil (w : World) : (binOp .eql 61 (.map none) (.map none)).run Yba.prog w = .ok (.bool true) w := by kernel_rfl
/-- The slot that the entry d makes. -/
def slotOf (d : Dt) (g : Nat) (L : List Pend) : Slot := ⟨d.a, d.len, d.c, d.rnp, d.ws, g, L⟩
theorem Half.done {B s M : Nat} {w0 wo W W' : World} {S : Nat → Option Slot} {R : Nat → Option Nat} {size bytes : Int} {d : Dt} {g X : Nat} {L : List Pend} {rn : ByteArray} (h : Tab B w0 wo S R size bytes) (hH : Half B s S d g X L rn d.rnp wo W) (hs : s < 8) (hL : L.map wtOf = d.ws) (hlen : L.length = d.len) (hle : d.len ≤ 1024) (hrn : rn = if d.rnp = true then tS s else ⟨#[]⟩)
    (hM : R (s / 4) = some M ∨ (R (s / 4) = none ∧ W.heap.size ≤ M)) (hK : Kept (fun k => k = B + 5 ∨ k = M) W W')
    (h5 : ∃ es clock, W'.heap[B + 5]? = some (.map es clock) ∧ StrKeys es.toList ∧ ∀ r, r < 2 → lookS es.toList (rS r) = if r = s / 4 then some (.map (some M)) else (R r).map fun m => .map (some m))
    (hmap : ∃ es clock, W'.heap[M]? = some (.map es clock) ∧ StrKeys es.toList ∧ ∀ n, n < 4 → lookS es.toList (nS n) = if n = s % 4 then some (entV g d.len d.len rn) else (S (s / 4 * 4 + n)).map (entOf (s / 4 * 4 + n))) :
    Tab B w0 W' (upd S s (slotOf d g L)) (fun r => if r = s / 4 then some M else R r) size bytes := by
  have l7 := lt_heap h.t
  have hW : wo.heap.size ≤ W.heap.size := hH.kept.size
  have hM7 : B + 7 < M := by
    rcases hM with hM | hM
    · exact (h.nms _ M (by omega) hM).1
    · omega
  have lt : ∀ {b : Nat} {o : Obj}, W.heap[b]? = some o → b ≠ B + 5 → b ≠ M → W'.heap[b]? = some o := fun {b o} hb h1 h2 => (hK.block b (lt_heap hb) (fun x => by rcases x with x | x; exact h1 x; exact h2 x)).trans hb
  refine h.step hs (slotOf d g L) (M := M) ?_ ?_ ?_ ?_ ?_ h5 ?_ ?_ ?_
  · rcases hM with hM | hM
    · exact .inl hM
    · exact .inr ⟨hM.1, by omega⟩
  · refine (hH.kept.mono (fun k _ x => ?_)).trans (hK.mono fun k _ x => ?_)
    · rcases x with x | x | x | x <;> simp [x]
    · rcases x with x | x <;> simp [x]
  · rw [← presA_upd]; exact lt hH.pres (by omega) (by omega)
  · rw [← modelA_upd]; exact lt hH.model (by omega) (by omega)
  · rw [← rnpsA_upd]; exact lt hH.rnps (by omega) (by omega)
  · obtain ⟨es, clock, a1, a2, a3, a4, a5⟩ := hH.tmpl
    refine ⟨es, clock, lt a1 (by omega) (by omega), a2, a3, fun s' hs' => ?_, a5⟩
    rw [a4 s' hs']
    unfold upd
    by_cases e : s' = s
    · simp [e, slotOf]
    · simp only [e, if_false]
      cases S s' <;> rfl
  · obtain ⟨es, clock, a1, a2, a3⟩ := hmap
    refine ⟨es, clock, a1, a2, fun n hn => ?_⟩
    rw [a3 n hn]
    unfold upd
    by_cases e : n = s % 4
    · have : s / 4 * 4 + n = s := by omega
      rw [if_pos e, if_pos this, this, hrn]
      rfl
    · rw [if_neg e, if_neg (by omega)]
  · obtain ⟨cur, r1, r2⟩ := hH.row
    have hg := hH.gl
    have hgM : g ≠ M := by
      intro e; subst e
      rcases hM with hM | hM
      · obtain ⟨_, ⟨es, c, m1, _⟩⟩ := h.nms _ _ (by omega) hM
        have := lt_heap m1
        omega
      · have := lt_heap r1; omega
    exact ⟨by show B + 7 < g; omega, ⟨cur, lt r1 (show g ≠ B + 5 by omega) hgM, r2⟩, hL, hlen, hle⟩
end Go.Proofs.Ybulkcfbe.tab
