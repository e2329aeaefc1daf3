import Derived.Test.YbulkcfcgLeast
import Derived.Deep.DeepCutAuto
import Derived.Maps.AppendAt
namespace Go.Proofs.Ybulkcfcg.pm
open Go.ChangeShapes Go.WideShapes Go.ChangeAt Go.RowKit
open Go.ChangeMaps (setBlock)
set_option linter.unusedVariables false
theorem info24 : (Yba.prog.info? 24).map (fun i => (i.zero, i.size, i.bytes)) = some (some (.pointer none), 1, 8) := by kernel_rfl
/-- A transaction's cells: its commit, its two maps; all else zero. -/
def txn (c : Int) (sm pm : Value) : Array Value :=
  #[.pointer none, .pointer none, .int .u64 0, .int .u64 c, .int .u64 0, .bool false, .bool false, .bool false, .bool false, .int .u32 0, .int .u64 0, .pointer none, .map none, .pointer none, .nilIface, .pointer none, .pointer none, sm, pm,
    .int .i64 0, .pointer none, .pointer none, .int .u64 0, .int .u64 0, .slice none 0 0, .slice none 0 0, .pointer none, .pointer none, .pointer none, .pointer none, .slice none 0 0, .int .i32 0, .int .u32 0, .int .i32 0, .int .u32 0]
theorem lt_heap {w : World} {b : Nat} {o : Obj} (h : w.heap[b]? = some o) : b < w.heap.size := by
  rcases Nat.lt_or_ge b w.heap.size with h' | h'
  · exact h'
  · rw [Array.getElem?_eq_none h'] at h; cases h
/-- What stands behind the first loop (k successors made so far, the row's capacity n). -/
structure St (B : Nat) (w0 w : World) (k n : Nat) (f : Nat → Nat) (z : Nat → Int) (own : Int) (sm pm : Value) : Prop where
  bel : Below B w0 w
  t : w.heap[B]? = some (.cells (txn own sm pm) 52 (0, 0))
  row : w.ownsRow (B + 1) 24 1 (.slice (some ⟨B + 1, 0, none⟩) k n) k ((List.range k).map fun i => ptr (f i))
  nodes : ∀ i, i < k → B + 1 < f i ∧ w.heap[f i]? = some (.cells (txn (z i) (.map none) (.map none)) 52 (0, 0))
  inj : ∀ i j, i < k → j < k → f i = f j → i = j
  succ : (sm = .map none ∧ k = 0) ∨ ∃ m, sm = .map (some m) ∧ B + 1 < m ∧ w.heap[m]? = some (.map (entries f k).toArray k)
theorem St.rowBlock {B : Nat} {w0 w : World} {k n : Nat} {f : Nat → Nat} {z : Nat → Int} {own : Int} {sm pm : Value} (h : St B w0 w k n f z own sm pm) : ∃ cur, w.heap[B + 1]? = some (.cells cur 24 (0, 0)) := by
  rcases h.row.2 with ⟨h1, _⟩ | ⟨g, cap, cur, hv, _, hh, _⟩
  · simp at h1
  · simp at hv
    obtain ⟨rfl, rfl⟩ := hv
    exact ⟨cur, hh⟩
/-- Nothing below M has turned, and all that is told of lies below M. -/
theorem St.kept {B M : Nat} {w0 w w' : World} {k n : Nat} {f : Nat → Nat} {z : Nat → Int} {own : Int} {sm pm : Value} (h : St B w0 w k n f z own sm pm) (hM : w.heap.size ≤ M) (hb : Below M w w') : St B w0 w' k n f z own sm pm := by
  have lt : ∀ {b : Nat} {o : Obj}, w.heap[b]? = some o → w'.heap[b]? = some o := fun {b o} hb' => (hb.block b (by have := lt_heap hb'; omega)).trans hb'
  refine ⟨h.bel.trans (hb.mono (by have := lt_heap h.t; omega)), lt h.t, ?_, fun i hi => ⟨(h.nodes i hi).1, lt (h.nodes i hi).2⟩, h.inj, ?_⟩
  · refine ⟨h.row.1, ?_⟩
    rcases h.row.2 with h2 | ⟨g, cap, cur, hv, hg, hh, r⟩
    · exact .inl h2
    · exact .inr ⟨g, cap, cur, hv, hg, lt hh, r⟩
  · rcases h.succ with h' | ⟨m, h1, h2, h3⟩
    · exact .inl h'
    · exact .inr ⟨m, h1, h2, lt h3⟩
theorem entries_push (f : Nat → Nat) (k b : Nat) : (entries (fun i => if i = k then b else f i) (k + 1)).toArray = (entries f k).toArray.push ⟨ptr b, .agg #[], k⟩ := by
  have : entries (fun i => if i = k then b else f i) (k + 1) = entries f k ++ [⟨ptr b, .agg #[], k⟩] := by
    unfold entries
    rw [List.range_succ, List.map_append]
    congr 1
    · apply List.map_congr_left
      intro i hi
      have : i < k := List.mem_range.1 hi
      simp [show i ≠ k by omega]
    · simp [ent]
  rw [this]
  simp
theorem setBlock_block {w : World} {m k : Nat} {o : Obj} : (setBlock w m o).heap[k]? = if m = k then (if m < w.heap.size then some o else none) else w.heap[k]? := by
  show (w.heap.setIfInBounds m o)[k]? = _
  rw [Array.getElem?_setIfInBounds]
theorem below_setBlock {B : Nat} {a w : World} (h : Below B a w) {m : Nat} (hm : B ≤ m) (o : Obj) : Below B a (setBlock w m o) :=
  h.trans ⟨rfl, rfl, rfl, by show w.heap.size ≤ (w.heap.setIfInBounds m o).size; simp, fun k hk => by rw [setBlock_block, if_neg (by omega)]⟩
theorem plain_alloc {w : World} {b : Nat} (h : Plain w b) (o : Obj) : Plain (w.alloc o) b := by
  obtain ⟨c, t, h⟩ := h
  exact ⟨c, t, (Below.heap_alloc _ _ _ (lt_heap h)).trans h⟩
/-- One successor more: the node, the map's new entry, the box of the append, the append. -/
theorem St.step {B m : Nat} {w0 w W4 : World} {k n : Nat} {f : Nat → Nat} {z : Nat → Int} {own : Int} {pm : Value} (h : St B w0 w k n f z own (.map (some m)) pm) (hm : w.heap[m]? = some (.map (entries f k).toArray k)) (hmB : B + 1 < m) (o : Obj)
    (hown : W4.ownsRow (B + 1) 24 1 (.slice (some ⟨B + 1, 0, none⟩) (k + 1) n) (k + 1) (((List.range k).map fun i => ptr (f i)) ++ [ptr w.heap.size]))
    (hg : ((setBlock (w.alloc (.cells (txn (z k) (.map none) (.map none)) 52)) m (.map ((entries f k).toArray.push ⟨ptr w.heap.size, .agg #[], k⟩) (k + 1))).alloc o).grownBy W4 (some (B + 1))) :
    St B w0 W4 (k + 1) n (fun i => if i = k then w.heap.size else f i) z own (.map (some m)) pm := by
  have lm := lt_heap hm
  have lB := lt_heap h.t
  obtain ⟨cur, hrow⟩ := h.rowBlock
  have lR := lt_heap hrow
  obtain ⟨W2, hW2⟩ : ∃ W2, W2 = setBlock (w.alloc (.cells (txn (z k) (.map none) (.map none)) 52)) m (.map ((entries f k).toArray.push ⟨ptr w.heap.size, .agg #[], k⟩) (k + 1)) := ⟨_, rfl⟩
  rw [← hW2] at hg
  have s2 : W2.heap.size = w.heap.size + 1 := by
    rw [hW2]
    show ((w.alloc _).heap.setIfInBounds _ _).size = _
    simp
  have s3 : (W2.alloc o).heap.size = w.heap.size + 1 + 1 := by simp [s2]
  have old : ∀ b, b < w.heap.size → b ≠ m → b ≠ B + 1 → W4.heap[b]? = w.heap[b]? := fun b hb h1 h2 => by
    rw [hg.block b (by omega) (by simpa using h2), Below.heap_alloc _ _ _ (by omega), hW2, setBlock_block, if_neg (fun e => h1 e.symm), Below.heap_alloc _ _ _ hb]
  have newm : W4.heap[m]? = some (.map ((entries f k).toArray.push ⟨ptr w.heap.size, .agg #[], k⟩) (k + 1)) := by
    rw [hg.block m (by omega) (by simp; omega), Below.heap_alloc _ _ _ (by omega), hW2, setBlock_block, if_pos rfl, if_pos (by simp; omega)]
  have newb : W4.heap[w.heap.size]? = some (.cells (txn (z k) (.map none) (.map none)) 52 (0, 0)) := by
    rw [hg.block w.heap.size (by omega) (by simp; omega), Below.heap_alloc _ _ _ (by omega), hW2, setBlock_block, if_neg (by omega)]
    show (w.heap.push _)[w.heap.size]? = _
    simp
  have bel2 : Below B w0 W2 := by rw [hW2]; exact below_setBlock (h.bel.alloc (by omega) _) (by omega) _
  refine ⟨?_, (old B lB (by omega) (by omega)).trans h.t, ?_, fun i hi => ?_, fun i j hi hj e => ?_, .inr ⟨m, rfl, hmB, by rw [entries_push]; exact newm⟩⟩
  · exact (bel2.alloc (by omega) o).grown hg (by omega) (fun k e => by cases e; omega)
  · have e : (List.range (k + 1)).map (fun i => ptr (if i = k then w.heap.size else f i)) = ((List.range k).map fun i => ptr (f i)) ++ [ptr w.heap.size] := by
      rw [List.range_succ, List.map_append]
      congr 1
      · apply List.map_congr_left
        intro i hi
        have : i < k := List.mem_range.1 hi
        simp [show i ≠ k by omega]
      · simp
    rw [e]
    exact hown
  · by_cases e : i = k
    · subst e; simp only [if_true]; exact ⟨by omega, newb⟩
    · simp only [if_neg e]
      have hn := h.nodes i (by omega)
      refine ⟨hn.1, (old _ (lt_heap hn.2) ?_ (by omega)).trans hn.2⟩
      intro x
      rw [x, hm] at hn
      cases hn.2
  · have hf : ∀ i, i < k → f i < w.heap.size := fun i hi => lt_heap (h.nodes i hi).2
    by_cases e1 : i = k <;> by_cases e2 : j = k
    · omega
    · simp only [if_pos e1, if_neg e2] at e; have := hf j (by omega); omega
    · simp only [if_neg e1, if_pos e2] at e; have := hf i (by omega); omega
    · simp only [if_neg e1, if_neg e2] at e; exact h.inj i j (by omega) (by omega) e
theorem block_set {w : World} {g o : Nat} {xs : Array Value} {t : TypeId} (v : Value) (hb : w.heap[g]? = some (.cells xs t (0, 0))) : (w.setCell ⟨g, o, none⟩ v).heap[g]? = some (.cells (xs.setIfInBounds o v) t (0, 0)) := by
  simp only [World.setCell, Array.getElem?_modify, hb]
  simp
/-- A store into t's own block and a new block: all else of the state stands. -/
theorem St.stored {B o : Nat} {w0 w : World} {k n : Nat} {f : Nat → Nat} {z : Nat → Int} {own : Int} {sm pm sm' pm' : Value} (h : St B w0 w k n f z own sm pm) (v : Value) (x : Obj)
    (ht : (txn own sm pm).setIfInBounds o v = txn own sm' pm') (hs : (sm' = .map none ∧ k = 0) ∨ ∃ m, sm' = .map (some m) ∧ B + 1 < m ∧ ((w.setCell ⟨B, o, none⟩ v).alloc x).heap[m]? = some (.map (entries f k).toArray k)) :
    St B w0 ((w.setCell ⟨B, o, none⟩ v).alloc x) k n f z own sm' pm' := by
  have lB := lt_heap h.t
  have s1 : (w.setCell ⟨B, o, none⟩ v).heap.size = w.heap.size := by simp [World.setCell]
  have old : ∀ b, b < w.heap.size → b ≠ B → ((w.setCell ⟨B, o, none⟩ v).alloc x).heap[b]? = w.heap[b]? := fun b hb h1 => by
    rw [Below.heap_alloc _ _ _ (by omega), Below.heap_setCell _ _ _ _ h1]
  refine ⟨(h.bel.setCell (Nat.le_refl _) v).alloc (by rw [s1]; omega) x, ?_, ?_, fun i hi => ⟨(h.nodes i hi).1, ?_⟩, h.inj, hs⟩
  · rw [Below.heap_alloc _ _ _ (by omega), block_set v h.t, ht]
  · refine ⟨h.row.1, ?_⟩
    rcases h.row.2 with h2 | ⟨g, cap, cur, hv, hg, hh, r⟩
    · exact .inl h2
    · exact .inr ⟨g, cap, cur, hv, hg, (old g (lt_heap hh) (by omega)).trans hh, r⟩
  · have hn := h.nodes i hi
    exact (old _ (lt_heap hn.2) (by omega)).trans hn.2
theorem St.addSucc {B : Nat} {w0 w : World} {n : Nat} {f : Nat → Nat} {z : Nat → Int} {own : Int} {pm : Value} (h : St B w0 w 0 n f z own (.map none) pm) :
    St B w0 ((w.setCell ⟨B, 17, none⟩ (.map (some w.heap.size))).alloc (.map #[] 0)) 0 n f z own (.map (some w.heap.size)) pm := by
  obtain ⟨cur, hrow⟩ := h.rowBlock
  refine h.stored _ _ rfl (.inr ⟨w.heap.size, rfl, lt_heap hrow, ?_⟩)
  show ((w.setCell _ _).heap.push _)[w.heap.size]? = _
  rw [Array.getElem?_push, if_pos (by simp [World.setCell])]
  rfl
theorem St.addPred {B : Nat} {w0 w : World} {k n : Nat} {f : Nat → Nat} {z : Nat → Int} {own : Int} {sm : Value} (h : St B w0 w k n f z own sm (.map none)) :
    St B w0 ((w.setCell ⟨B, 18, none⟩ (.map (some w.heap.size))).alloc (.map #[] 0)) k n f z own sm (.map (some w.heap.size)) := by
  refine h.stored _ _ rfl ?_
  rcases h.succ with h' | ⟨m, h1, h2, h3⟩
  · exact .inl h'
  · refine .inr ⟨m, h1, h2, ?_⟩
    have := lt_heap h3
    rw [Below.heap_alloc _ _ _ (by simp [World.setCell]; omega), Below.heap_setCell _ _ _ _ (by show m ≠ B; omega)]
    exact h3
theorem St.cell {B : Nat} {w0 w : World} {k n : Nat} {f : Nat → Nat} {z : Nat → Int} {own : Int} {sm pm : Value} (h : St B w0 w k n f z own sm pm) : w.cell? ⟨B, 3, none⟩ = some (.int .u64 own) ∧ w.cell? ⟨B, 17, none⟩ = some sm ∧ w.cell? ⟨B, 18, none⟩ = some pm ∧ (∀ j, w.frozen? ⟨B, j, none⟩ = false) ∧ B < w.heap.size := by
  refine ⟨?_, ?_, ?_, fun j => ?_, lt_heap h.t⟩
  · simp [World.cell?, h.t, txn]
  · simp [World.cell?, h.t, txn]
  · simp [World.cell?, h.t, txn]
  · simp [World.frozen?, h.t]
end Go.Proofs.Ybulkcfcg.pm
