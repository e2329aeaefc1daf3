import Derived.Test.YbulkcfcgState
namespace Go.Proofs.Ybulkcfcg.pm
open Go.ChangeShapes Go.WideShapes Go.ChangeAt Go.RowKit
open Go.ChangeMaps (setBlock)
set_option linter.unusedVariables false
theorem St.setPred {B : Nat} {w0 w : World} {k n : Nat} {f : Nat → Nat} {z : Nat → Int} {own : Int} {sm pm : Value} (h : St B w0 w k n f z own sm pm) (v : Value) :
    St B w0 (w.setCell ⟨B, 18, none⟩ v) k n f z own sm v := by
  have old : ∀ b, b ≠ B → (w.setCell ⟨B, 18, none⟩ v).heap[b]? = w.heap[b]? := fun b h1 => Below.heap_setCell _ _ _ _ h1
  refine ⟨h.bel.setCell (Nat.le_refl _) v, ?_, ?_, fun i hi => ⟨(h.nodes i hi).1, ?_⟩, h.inj, ?_⟩
  · rw [block_set v h.t]; rfl
  · refine ⟨h.row.1, ?_⟩
    rcases h.row.2 with h2 | ⟨g, cap, cur, hv, hg, hh, r⟩
    · exact .inl h2
    · exact .inr ⟨g, cap, cur, hv, hg, (old g (by omega)).trans hh, r⟩
  · have hn := h.nodes i hi
    exact (old _ (by omega)).trans hn.2
  · rcases h.succ with h' | ⟨m, h1, h2, h3⟩
    · exact .inl h'
    · exact .inr ⟨m, h1, h2, (old m (by omega)).trans h3⟩
/-- The second loop: the map of predecessors holds k of them. -/
structure PredSt (M : Nat) (w0 w : World) (k : Nat) (g : Nat → Nat) : Prop where
  bel : Below M w0 w
  map : w.heap[M]? = some (.map (entries g k).toArray k)
  nodes : ∀ i, i < k → g i ≠ M ∧ Plain w (g i)
theorem PredSt.zero {M : Nat} (w : World) (g : Nat → Nat) (h : w.heap.size = M) : PredSt M w (w.alloc (.map #[] 0)) 0 g := by
  refine ⟨(Below.refl _ _).alloc (by omega) _, ?_, fun i hi => absurd hi (Nat.not_lt_zero _)⟩
  show (w.heap.push _)[M]? = _
  rw [← h]
  simp [entries]
theorem PredSt.insert {M : Nat} {w0 w : World} {k : Nat} {g : Nat → Nat} (h : PredSt M w0 w k g) (x : Int) :
    (Instr.mapUpdate 37 (.map (some M)) (ptr w.heap.size) (.agg #[])).run Yba.prog (w.alloc (.cells (txn x (.map none) (.map none)) 52)) = .ok () (setBlock (w.alloc (.cells (txn x (.map none) (.map none)) 52)) M (.map ((entries g k).toArray.push ⟨ptr w.heap.size, .agg #[], k⟩) (k + 1))) := by
  refine run_insert (w.alloc (.cells (txn x (.map none) (.map none)) 52)) M w.heap.size k (entries g k).toArray ((Below.heap_alloc _ _ _ (lt_heap h.map)).trans h.map) ⟨txn x (.map none) (.map none), 52, by show (w.heap.push _)[w.heap.size]? = _; simp⟩ ?_
  intro e he
  obtain ⟨i, hi, rfl⟩ := mem_entries.1 (by simpa using he)
  have hn := h.nodes i hi
  obtain ⟨c, t, hp⟩ := hn.2
  exact ⟨g i, rfl, plain_alloc ⟨c, t, hp⟩ _, by have := lt_heap hp; omega⟩
theorem PredSt.step {M : Nat} {w0 w : World} {k : Nat} {g : Nat → Nat} (h : PredSt M w0 w k g) (x : Int) :
    PredSt M w0 (setBlock (w.alloc (.cells (txn x (.map none) (.map none)) 52)) M (.map ((entries g k).toArray.push ⟨ptr w.heap.size, .agg #[], k⟩) (k + 1))) (k + 1) (fun i => if i = k then w.heap.size else g i) := by
  have lm := lt_heap h.map
  refine ⟨below_setBlock (h.bel.alloc (by omega) _) (Nat.le_refl _) _, ?_, fun i hi => ?_⟩
  · rw [setBlock_block, if_pos rfl, if_pos (by simp; omega), entries_push]
  · by_cases e : i = k
    · simp only [if_pos e]
      refine ⟨by omega, txn x (.map none) (.map none), 52, ?_⟩
      rw [setBlock_block, if_neg (by omega)]
      show (w.heap.push _)[w.heap.size]? = _
      simp
    · simp only [if_neg e]
      obtain ⟨h1, c, t, hp⟩ := h.nodes i (by omega)
      refine ⟨h1, c, t, ?_⟩
      rw [setBlock_block, if_neg (fun e => h1 e.symm), Below.heap_alloc _ _ _ (lt_heap hp)]
      exact hp
theorem St.rowCell {B : Nat} {w0 w : World} {n k : Nat} {f : Nat → Nat} {z : Nat → Int} {own : Int} {sm pm : Value} (h : St B w0 w n n f z own sm pm) (hk : k < n) :
    w.cell? ⟨B + 1, k, none⟩ = some (ptr (f k)) ∧ B + 1 < w.heap.size := by
  rcases h.row.2 with ⟨h1, _⟩ | ⟨g, cap, cur, hv, _, hh, _, _, _, ht⟩
  · simp at h1
  · simp at hv
    obtain ⟨rfl, rfl⟩ := hv
    refine ⟨?_, lt_heap hh⟩
    have h2 : (cur.toList.take (n * 1))[k]? = some (ptr (f k)) := by rw [ht]; simp [hk]
    rw [List.getElem?_take] at h2
    split at h2
    · simpa [World.cell?, hh] using h2
    · cases h2
theorem St.look {B m : Nat} {w0 w : World} {n k : Nat} {f : Nat → Nat} {z : Nat → Int} {own : Int} {pm : Value} (h : St B w0 w n n f z own (.map (some m)) pm) (hk : k < n) (W : World) (hW : ∀ b, b < w.heap.size → W.heap[b]? = w.heap[b]?) :
    (Instr.lookup 37 (.map (some m)) (ptr (f k)) true).run Yba.prog W = .ok (.tuple #[.agg #[], .bool true]) W := by
  rcases h.succ with ⟨h1, _⟩ | ⟨m', h1, h2, hmap⟩
  · cases h1
  · cases h1
    have pl : ∀ i, i < n → Plain W (f i) := fun i hi => ⟨_, _, (hW _ (lt_heap (h.nodes i hi).2)).trans (h.nodes i hi).2⟩
    refine run_look W m (f k) n (entries f n).toArray (entries f k) ((List.range (n - k - 1)).map fun i => ent (f (k + 1 + i)) (k + 1 + i)) (ent (f k) k) ((hW _ (lt_heap hmap)).trans hmap) ?_ rfl (pl k hk) ?_
    · have e : n = k + (1 + (n - k - 1)) := by omega
      simp only [entries]
      conv => lhs; rw [e]
      rw [List.range_add, List.range_add]
      simp [List.map_map, Function.comp_def, Nat.add_comm, Nat.add_left_comm]
    · intro e he
      obtain ⟨i, hi, rfl⟩ := mem_entries.1 he
      exact ⟨f i, rfl, pl i (by omega), fun x => by have := h.inj k i hk (by omega) x; omega⟩
theorem len_map {w : World} {m clock : Nat} {es : Array MapEntry} (hm : w.heap[m]? = some (.map es clock)) : (Builtin.len_ #[37] 3 #[.map (some m)]).run Yba.prog w = .ok (.int .i64 es.size) w := by
  simp [Builtin.len_, run_underlying Yba.underlying37, MapKept.run_getObj_map hm, goInt, Result.andThen]
theorem first_any {B : Nat} {w0 w : World} {n : Nat} {f : Nat → Nat} {z : Nat → Int} {own : Int} {sm pm : Value} (h : St B w0 w n n f z own sm pm) :
    Calls Yba.prog 4 #[.pointer (some ⟨B, 0, none⟩)] w fun e w' => ∃ v, e = .returned (.int .u64 v) ∧ Least ((List.range n).map z) v ∧ Below w.heap.size w w' := by
  rcases h.succ with ⟨rfl, rfl⟩ | ⟨m, rfl, hm, hmap⟩
  · exact (firstMissed_nil B _ w h.t rfl rfl).mono fun e w' h => ⟨0, h.1, Least.nil, h.2⟩
  · exact firstMissed_some B m n f z _ w h.t rfl rfl hmap fun i hi => ⟨by have := (h.nodes i hi).1; omega, by simp [World.cell?, (h.nodes i hi).2, txn]⟩
end Go.Proofs.Ybulkcfcg.pm
