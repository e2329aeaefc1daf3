/- Waits as they lie in memory (eight cells each); the frame 'all but these blocks stand'. -/
import Derived.Test.YbulkcfbeTime
namespace Go.Proofs.Ybulkcfbe.pd
open Go.ChangeShapes Go.WideShapes Go.ChangeAt Go.RowKit
open Go.Proofs.Ybulkcfbe.tm Go.Proofs.Ybulkcfbe.sm
open Go.ChangeMaps (setBlock)
set_option linter.unusedVariables false
/-- Of the old blocks only those in ex may have turned. -/
structure Kept (ex : Nat → Prop) (w w' : World) : Prop where
  os : w'.os = w.os
  tape : w'.tape = w.tape
  output : w'.output = w.output
  size : w.heap.size ≤ w'.heap.size
  block : ∀ k, k < w.heap.size → ¬ ex k → w'.heap[k]? = w.heap[k]?
theorem Kept.refl (ex : Nat → Prop) (w : World) : Kept ex w w := ⟨rfl, rfl, rfl, Nat.le_refl _, fun _ _ _ => rfl⟩
theorem Kept.trans {ex : Nat → Prop} {a b c : World} (h : Kept ex a b) (k : Kept ex b c) : Kept ex a c :=
  ⟨k.os.trans h.os, k.tape.trans h.tape, k.output.trans h.output, Nat.le_trans h.size k.size, fun i hi hn => (k.block i (Nat.lt_of_lt_of_le hi h.size) hn).trans (h.block i hi hn)⟩
theorem Kept.mono {ex ex' : Nat → Prop} {a b : World} (h : Kept ex a b) (hx : ∀ k, k < a.heap.size → ex k → ex' k) : Kept ex' a b := ⟨h.os, h.tape, h.output, h.size, fun i hi hn => h.block i hi fun x => hn (hx i hi x)⟩
theorem Kept.alloc {ex : Nat → Prop} {a b : World} (h : Kept ex a b) (o : Obj) : Kept ex a (b.alloc o) :=
  ⟨h.os, h.tape, h.output, by have := h.size; simp; omega, fun i hi hn => (Below.heap_alloc _ _ _ (Nat.lt_of_lt_of_le hi h.size)).trans (h.block i hi hn)⟩
theorem Kept.drew {ex : Nat → Prop} {a b : World} (h : Kept ex a b) : Kept ex a b.drew := ⟨h.os, h.tape, h.output, h.size, h.block⟩
theorem Kept.setCell {ex : Nat → Prop} {a b : World} (h : Kept ex a b) {g o : Nat} (hg : ex g ∨ a.heap.size ≤ g) (v : Value) : Kept ex a (b.setCell ⟨g, o, none⟩ v) :=
  ⟨h.os, h.tape, h.output, by have := h.size; simpa [World.setCell] using this, fun i hi hn => by
    rw [Below.heap_setCell _ _ _ _ (show i ≠ g by intro e; subst e; rcases hg with hg | hg; exact hn hg; omega)]; exact h.block i hi hn⟩
theorem Kept.setBlock {ex : Nat → Prop} {a b : World} (h : Kept ex a b) {g : Nat} (hg : ex g ∨ a.heap.size ≤ g) (o : Obj) : Kept ex a (setBlock b g o) :=
  ⟨h.os, h.tape, h.output, by have := h.size; show _ ≤ (b.heap.setIfInBounds g o).size; simpa using this, fun i hi hn => by
    rw [setBlock_block, if_neg (show ¬ g = i by intro e; subst e; rcases hg with hg | hg; exact hn hg; omega)]; exact h.block i hi hn⟩
theorem Kept.grown {ex : Nat → Prop} {a b c : World} {r : Option Nat} (h : Kept ex a b) (hg : b.grownBy c r) (hr : ∀ k, r = some k → ex k ∨ a.heap.size ≤ k) : Kept ex a c :=
  ⟨hg.os.trans h.os, hg.tape.trans h.tape, hg.output.trans h.output, Nat.le_trans h.size hg.size, fun i hi hn => by
    rw [hg.block i (Nat.lt_of_lt_of_le hi h.size) (by intro e; rcases hr i e.symm with x | x; exact hn x; omega)]; exact h.block i hi hn⟩
theorem Kept.below {ex : Nat → Prop} {a b : World} (h : Kept ex a b) {B : Nat} (hB : B ≤ a.heap.size) (hx : ∀ k, k < B → ¬ ex k) : Below B a b :=
  ⟨h.os, h.tape, h.output, h.size, fun k hk => h.block k (Nat.lt_of_lt_of_le hk hB) (hx k hk)⟩
theorem Kept.of_below {ex : Nat → Prop} {a b : World} (h : Below a.heap.size a b) : Kept ex a b := ⟨h.os, h.tape, h.output, h.size, fun k hk _ => h.block k hk⟩
/-- One wait: port, expiry, length of the Interest, and the block that the Interest lies in. -/
structure Pend where
  p : Int
  x : Int
  l : Nat
  g : Nat
def Pend.cells (q : Pend) : List Value := [.int .u64 0, .int .u64 0, .pointer none, .int .u16 q.p, .int .u64 (q.x % 1000000000), .int .i64 (q.x / 1000000000), .pointer none, .slice (some ⟨q.g, 0, none⟩) q.l q.l]
def flat (l : List Pend) : List Value := l.flatMap Pend.cells
theorem flat_cons (x : Pend) (l : List Pend) : flat (x :: l) = x.cells ++ flat l := rfl
theorem flat_append (a b : List Pend) : flat (a ++ b) = flat a ++ flat b := by simp [flat]
theorem cells_length (x : Pend) : x.cells.length = 8 := rfl
theorem flat_length (l : List Pend) : (flat l).length = l.length * 8 := by
  induction l with
  | nil => rfl
  | cons x l ih => rw [flat_cons, List.length_append, ih, cells_length]; simp; omega
theorem flat_get (xs : List Pend) : ∀ (i j : Nat) (x : Pend), xs[i]? = some x → j < 8 → (flat xs)[i * 8 + j]? = x.cells[j]? := by
  induction xs with
  | nil => intro i j x h; simp at h
  | cons y ys ih =>
    intro i j x h hj
    rw [flat_cons]
    cases i with
    | zero =>
      simp at h
      subst h
      rw [List.getElem?_append_left (by rw [cells_length]; omega)]
      congr 1
      omega
    | succ i =>
      simp at h
      rw [List.getElem?_append_right (by rw [cells_length]; omega), cells_length, show (i + 1) * 8 + j - 8 = i * 8 + j by omega]
      exact ih i j x h hj
theorem flat_oneCell (xs : List Pend) : ∀ u ∈ flat xs, u.oneCell' = true := by
  intro u hu
  simp only [flat, List.mem_flatMap] at hu
  obtain ⟨x, _, hx⟩ := hu
  simp only [Pend.cells, List.mem_cons, List.not_mem_nil, or_false] at hx
  rcases hx with rfl | rfl | rfl | rfl | rfl | rfl | rfl | rfl <;> rfl
/-- The waits ws lie in block g, from its first cell on. -/
def Row (w : World) (g : Nat) (ws : List Pend) : Prop := ∃ cur, w.heap[g]? = some (.cells cur 55 (0, 0)) ∧ cur.toList.take (ws.length * 8) = flat ws
theorem Row.kept {ex : Nat → Prop} {w w' : World} {g : Nat} {ws : List Pend} (h : Row w g ws) (hk : Kept ex w w') (hg : ¬ ex g) : Row w' g ws := by
  obtain ⟨cur, h1, h2⟩ := h
  exact ⟨cur, (hk.block g (lt_heap h1) hg).trans h1, h2⟩
theorem Row.lt {w : World} {g : Nat} {ws : List Pend} (h : Row w g ws) : g < w.heap.size := by
  obtain ⟨cur, h1, _⟩ := h
  exact lt_heap h1
theorem Row.cell {w : World} {g i : Nat} {ws : List Pend} {x : Pend} (h : Row w g ws) (hi : ws[i]? = some x) {j : Nat} (hj : j < 8) : w.cell? ⟨g, i * 8 + j, none⟩ = x.cells[j]? := by
  obtain ⟨cur, h1, h2⟩ := h
  have hl : i < ws.length := (List.getElem?_eq_some_iff.1 hi).1
  have e := flat_get ws i j x hi hj
  rw [← h2, List.getElem?_take_of_lt (by omega)] at e
  simpa [World.cell?, h1] using e
theorem Row.of_owns {w : World} {base n cap g : Nat} {ws : List Pend} (h : w.ownsRow base 55 8 (.slice (some ⟨g, 0, none⟩) n cap) n (flat ws)) : Row w g ws := by
  rcases h.2 with ⟨h1, _⟩ | ⟨g', cap', cur, hv, _, hh, _, _, _, ht⟩
  · simp at h1
  · simp at hv
    obtain ⟨rfl, rfl⟩ := hv
    have hn := h.1
    rw [flat_length] at hn
    have : ws.length = n := by omega
    exact ⟨cur, hh, by rw [this]; exact ht⟩
/-- The waits that outlast now. -/
def live (now : Int) (ws : List Pend) : List Pend := ws.filter fun q => decide (now < q.x)
/-- The count of bytes behind them. -/
def bytesOf (b : Int) (ws : List Pend) : Int := ws.foldl (fun b q => wrap64 (b - q.l)) b
theorem live_snoc (now : Int) (ws : List Pend) (q : Pend) : live now (ws ++ [q]) = live now ws ++ (if now < q.x then [q] else []) := by
  by_cases h : now < q.x <;> simp [live, h]
theorem bytesOf_snoc (b : Int) (ws : List Pend) (q : Pend) : bytesOf b (ws ++ [q]) = wrap64 (bytesOf b ws - q.l) := by simp [bytesOf]
/-- The table's own cells. -/
def pitC (E T : Nat) (hm size cap bcap bytes : Int) : Array Value := #[.map (some E), .int .i64 hm, .map (some T), .int .i64 size, .int .i64 cap, .int .i64 bcap, .int .i64 bytes, .int .u64 0, .int .i64 0, .pointer none]
/-- An entry's cells. -/
def entV (g n cap : Nat) (rnp : ByteArray) : Value := .agg #[.slice (some ⟨g, 0, none⟩) n cap, .int .u8 0, .slice none 0 0, .string rnp]
end Go.Proofs.Ybulkcfbe.pd
