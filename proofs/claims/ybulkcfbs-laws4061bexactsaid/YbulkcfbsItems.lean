/- Plain facts on items, rows of items in memory. -/
import Derived.Test.YbulkcfbsRows
import Derived.WalkKit
import Derived.ProofKit
import Derived.OpenShut
import Derived.WalkSpells
import Derived.WalkLawsBesides
import Derived.Deep.QuietTactic
import Derived.BigQuiet
import Derived.Deep.LoopGhost
import Derived.Deep.RegionWith
namespace Go.Proofs.Ybulkcfbs.items
open Go.ChangeShapes Go.WideShapes Go.ChangeAt Go.RowKit
set_option linter.unusedVariables false
/-- A path item as it lies in memory: five cells. -/
structure Item where
  node : Int
  kind : Int
  text : ByteArray
  line : Int
  col : Int
def Item.cells (x : Item) : List Value := [.int .i64 x.node, .int .i64 x.kind, .string x.text, .int .i64 x.line, .int .i64 x.col]
def flat (xs : List Item) : List Value := xs.flatMap Item.cells
theorem flat_nil : flat [] = [] := rfl
theorem flat_cons (x : Item) (xs : List Item) : flat (x :: xs) = x.cells ++ flat xs := by simp [flat]
theorem flat_append (xs ys : List Item) : flat (xs ++ ys) = flat xs ++ flat ys := by simp [flat]
theorem flat_length (xs : List Item) : (flat xs).length = xs.length * 5 := by
  induction xs with
  | nil => rfl
  | cons x xs ih => rw [flat_cons, List.length_append, ih]; simp [Item.cells]; omega
theorem cells_length (x : Item) : x.cells.length = 5 := rfl
theorem flat_get (xs : List Item) : ∀ (i j : Nat) (x : Item), xs[i]? = some x → j < 5 → (flat xs)[i * 5 + j]? = x.cells[j]? := by
  induction xs with
  | nil => intro i j x h; simp at h
  | cons y ys ih =>
    intro i j x h hj
    rw [flat_cons]
    cases i with
    | zero =>
      simp at h
      subst h
      rw [List.getElem?_append_left (by rw [cells_length]; omega)]
      congr 1
      omega
    | succ i =>
      simp at h
      rw [List.getElem?_append_right (by rw [cells_length]; omega), cells_length, show (i + 1) * 5 + j - 5 = i * 5 + j by omega]
      exact ih i j x h hj
theorem flat_oneCell (xs : List Item) : ∀ u ∈ flat xs, u.oneCell' = true := by
  intro u hu
  simp only [flat, List.mem_flatMap] at hu
  obtain ⟨x, _, hx⟩ := hu
  simp only [Item.cells, List.mem_cons, List.not_mem_nil, or_false] at hx
  rcases hx with rfl | rfl | rfl | rfl | rfl <;> rfl
/-- Five cells set at once. -/
def set5 (l : List Value) (q : Nat) (x : Item) : List Value := ((((l.set q (.int .i64 x.node)).set (q + 1) (.int .i64 x.kind)).set (q + 2) (.string x.text)).set (q + 3) (.int .i64 x.line)).set (q + 4) (.int .i64 x.col)
theorem flat_set (xs : List Item) : ∀ (k : Nat) (x : Item), k < xs.length → set5 (flat xs) (k * 5) x = flat (xs.set k x) := by
  induction xs with
  | nil => intro k x h; simp at h
  | cons y ys ih =>
    intro k x h
    cases k with
    | zero => simp [set5, flat_cons, Item.cells]
    | succ k =>
      have := ih k x (by simpa using h)
      simp only [List.set_cons_succ, flat_cons]
      rw [← this]
      unfold set5
      have e : ∀ (l : List Value) (j : Nat) (v : Value), (y.cells ++ l).set ((k + 1) * 5 + j) v = y.cells ++ l.set (k * 5 + j) v := fun l j v => by
        rw [List.set_append_right _ _ (by rw [cells_length]; omega), cells_length, show (k + 1) * 5 + j - 5 = k * 5 + j by omega]
      have e0 := e (flat ys) 0 (.int .i64 x.node)
      simp only [Nat.add_zero] at e0
      rw [e0, e, e, e, e]
/-- Item x lies at offset q of block g. -/
structure At (w : World) (g q : Nat) (x : Item) : Prop where
  c0 : w.cell? ⟨g, q, none⟩ = some (.int .i64 x.node)
  c1 : w.cell? ⟨g, q + 1, none⟩ = some (.int .i64 x.kind)
  c2 : w.cell? ⟨g, q + 2, none⟩ = some (.string x.text)
  c3 : w.cell? ⟨g, q + 3, none⟩ = some (.int .i64 x.line)
  c4 : w.cell? ⟨g, q + 4, none⟩ = some (.int .i64 x.col)
/-- The slice value v reads as the items xs. -/
structure Reads (w : World) (a : Option Addr) (c : Nat) (xs : List Item) : Prop where
  cap : xs.length ≤ c
  max : c ≤ 9223372036854775807
  cells : 0 < xs.length → ∃ g o, a = some ⟨g, o, none⟩ ∧ ∀ i x, xs[i]? = some x → At w g (o + i * 5) x
theorem lt_of_cell {w : World} {b o : Nat} {v : Value} (h : w.cell? ⟨b, o, none⟩ = some v) : b < w.heap.size := by
  by_cases hb : b < w.heap.size
  · exact hb
  · simp [World.cell?, Array.getElem?_eq_none (show w.heap.size ≤ b by omega)] at h
theorem At.below {B : Nat} {w w' : World} {g q : Nat} {x : Item} (h : At w g q x) (hb : Below B w w') (hg : g < B) : At w' g q x :=
  ⟨(hb.cell (p := ⟨g, q, none⟩) hg).trans h.c0, (hb.cell (p := ⟨g, q + 1, none⟩) hg).trans h.c1, (hb.cell (p := ⟨g, q + 2, none⟩) hg).trans h.c2, (hb.cell (p := ⟨g, q + 3, none⟩) hg).trans h.c3, (hb.cell (p := ⟨g, q + 4, none⟩) hg).trans h.c4⟩
theorem Reads.below {w w' : World} {a : Option Addr} {c : Nat} {xs : List Item} (h : Reads w a c xs) (hb : Below w.heap.size w w') : Reads w' a c xs := by
  refine ⟨h.cap, h.max, fun h0 => ?_⟩
  obtain ⟨g, o, ha, hx⟩ := h.cells h0
  exact ⟨g, o, ha, fun i x hi => (hx i x hi).below hb (lt_of_cell (hx i x hi).c0)⟩
theorem Reads.drewN {w : World} {a : Option Addr} {c : Nat} {xs : List Item} (h : Reads w a c xs) (n : Nat) : Reads (w.drewN n) a c xs := by
  refine ⟨h.cap, h.max, fun h0 => ?_⟩
  obtain ⟨g, o, ha, hx⟩ := h.cells h0
  exact ⟨g, o, ha, fun i x hi => ⟨(hx i x hi).c0, (hx i x hi).c1, (hx i x hi).c2, (hx i x hi).c3, (hx i x hi).c4⟩⟩
/-- What is owned can be read. -/
theorem reads_of_owns {w : World} {base : Nat} {v : Value} {n : Nat} {xs : List Item} (h : w.ownsRow base 30 5 v n (flat xs)) : ∃ a c, v = .slice a n c ∧ n = xs.length ∧ Reads w a c xs := by
  have hn : n = xs.length := by have := h.1; rw [flat_length] at this; omega
  subst hn
  rcases h.2 with ⟨rfl, h0⟩ | ⟨g, cap, cur, rfl, hb, hg, hnc, hcm, hcs, htake⟩
  · exact ⟨none, 0, by rw [h0], rfl, by omega, by omega, fun h => by omega⟩
  · refine ⟨some ⟨g, 0, none⟩, cap, rfl, rfl, hnc, hcm, fun _ => ⟨g, 0, rfl, fun i x hi => ?_⟩⟩
    have hlt : i < xs.length := by
      rcases Nat.lt_or_ge i xs.length with h' | h'
      · exact h'
      · rw [List.getElem?_eq_none h'] at hi; cases hi
    have key : ∀ j, j < 5 → w.cell? ⟨g, 0 + i * 5 + j, none⟩ = x.cells[j]? := fun j hj => by
      rw [Nat.zero_add, h.cellAt (i * 5 + j) (by omega)]
      exact flat_get xs i j x hi hj
    exact ⟨key 0 (by omega), key 1 (by omega), key 2 (by omega), key 3 (by omega), key 4 (by omega)⟩
/-- Five cells stored into memory. -/
def put5 (w : World) (g q : Nat) (x : Item) : World := ((((w.setCell ⟨g, q, none⟩ (.int .i64 x.node)).setCell ⟨g, q + 1, none⟩ (.int .i64 x.kind)).setCell ⟨g, q + 2, none⟩ (.string x.text)).setCell ⟨g, q + 3, none⟩ (.int .i64 x.line)).setCell ⟨g, q + 4, none⟩ (.int .i64 x.col)
theorem owns_put {w : World} {base g n cap k : Nat} {xs : List Item} (h : w.ownsRow base 30 5 (.slice (some ⟨g, 0, none⟩) n cap) n (flat xs)) (x : Item) (hk : k < xs.length) :
    (put5 w g (k * 5) x).ownsRow base 30 5 (.slice (some ⟨g, 0, none⟩) n cap) n (flat (xs.set k x)) := by
  rw [← flat_set xs k x hk]
  exact ((((h.stored _ _).1.stored _ _).1.stored _ _).1.stored _ _).1.stored _ _ |>.1
theorem below_put {B : Nat} {a w : World} (h : Below B a w) {g q : Nat} (hg : B ≤ g) (x : Item) : Below B a (put5 w g q x) :=
  ((((h.setCell hg _).setCell hg _).setCell hg _).setCell hg _).setCell hg _
theorem below_dn {B : Nat} {a w : World} (h : Below B a w) (n : Nat) : Below B a (w.drewN n) := ⟨h.os, h.tape, h.output, h.size, h.block⟩
theorem owns_drewN {w : World} {base : Nat} {e : TypeId} {size : Nat} {v : Value} {n : Nat} {xs : List Value} (h : w.ownsRow base e size v n xs) (k : Nat) : (w.drewN k).ownsRow base e size v n xs := h
theorem owns_below {w w' : World} {base : Nat} {e : TypeId} {size : Nat} {v : Value} {n : Nat} {xs : List Value} (h : w.ownsRow base e size v n xs) (hb : Below w.heap.size w w') : w'.ownsRow base e size v n xs := by
  refine ⟨h.1, ?_⟩
  rcases h.2 with h2 | ⟨g, cap, cur, hv, hg, hh, r⟩
  · exact .inl h2
  · refine .inr ⟨g, cap, cur, hv, hg, (hb.block g ?_).trans hh, r⟩
    rcases Nat.lt_or_ge g w.heap.size with h' | h'
    · exact h'
    · rw [Array.getElem?_eq_none h'] at hh; cases hh
end Go.Proofs.Ybulkcfbs.items
