import Derived.Test.YbulkcfekIntAdd
import Derived.Test.YbulkcfekIntSet
namespace Go.Proofs.Ybulkcfek.big
open Go.ChangeShapes Go.WideShapes Go.ChangeAt Go.RowKit
set_option linter.unusedVariables false
/-- What Lsh by 64 leaves: nought, or the words [0, h] at the head of a row of seven of the call's own. -/
def Big (B : Nat) (w : World) (b : Nat) : Prop :=
  w.heap[b]? = some (.cells #[.bool false, .slice none 0 0] 46 (0, 0)) ∨
  ∃ (ng : Bool) (g : Nat) (h : Int), 0 < h ∧ h ≤ 9223372036854775808 ∧ B ≤ g ∧ ¬ g = b ∧ w.heap[b]? = some (.cells #[.bool ng, .slice (some ⟨g, 0, none⟩) 2 7] 46 (0, 0)) ∧ w.heap[g]? = some (.cells (row7 0 h 0) 55 (0, 0))
/-- What SetUint64 leaves: nought, or one word. -/
def Small (w : World) (y : Nat) : Prop :=
  w.heap[y]? = some (.cells #[.bool false, .slice none 0 0] 46 (0, 0)) ∨
  ∃ (p : Nat) (x : Int), 0 < x ∧ x ≤ 18446744073709551615 ∧ w.heap[y]? = some (.cells #[.bool false, .slice (some ⟨p, 0, none⟩) 1 1] 46 (0, 0)) ∧ w.heap[p]? = some (.cells #[.int .u64 x] 55 (0, 0))
theorem below_set {B : Nat} {w w' : World} (h : Below B w w') {b o : Nat} (hb : B ≤ b) (v : Value) : Below B w (w'.setCell ⟨b, o, none⟩ v) := h.setCell hb v
theorem below_dn {B : Nat} {a w : World} (h : Below B a w) (n : Nat) : Below B a (w.drewN n) := ⟨h.os, h.tape, h.output, h.size, h.block⟩
theorem IsInt.mk0 {w : World} {b c : Nat} {s : Bool} {a : Option Addr} (h : w.heap[b]? = some (.cells #[.bool s, .slice a 0 c] 46 (0, 0))) : IsInt w b s [] := ⟨a, c, h, fun h => absurd h (by simp)⟩
theorem IsInt.mkRow {w : World} {b g c m : Nat} {s : Bool} {zs : List Int} {xs : Array Value} (h : w.heap[b]? = some (.cells #[.bool s, .slice (some ⟨g, 0, none⟩) m c] 46 (0, 0))) (hg : w.heap[g]? = some (.cells xs 55 (0, 0))) (hm : zs.length = m)
    (hx : ∀ i, i < zs.length → xs[i]? = some (.int .u64 (zs.getD i 0))) : IsInt w b s zs := by
  refine ⟨some ⟨g, 0, none⟩, c, by rw [hm]; exact h, fun _ => ⟨g, 0, rfl, fun i hi => ?_⟩⟩
  rw [Nat.zero_add]
  exact cell_of_block hg (hx i hi)
theorem heap_set_other {w : World} {b o k : Nat} (v : Value) (h : ¬ k = b) : (w.setCell ⟨b, o, none⟩ v).heap[k]? = w.heap[k]? := Below.heap_setCell _ _ _ _ h
theorem fin_row {w1 : World} {b g m c : Nat} {v0 v1 : Value} {xs : Array Value} (s : Bool) (k : Nat) (zs : List Int) (hgb : ¬ g = b) (hb1 : w1.heap[b]? = some (.cells #[v0, v1] 46 (0, 0))) (hg1 : w1.heap[g]? = some (.cells xs 55 (0, 0))) (hm : zs.length = m)
    (hx : ∀ i, i < zs.length → xs[i]? = some (.int .u64 (zs.getD i 0))) : IsInt (((w1.setCell ⟨b, 1, none⟩ (.slice (some ⟨g, 0, none⟩) m c)).setCell ⟨b, 0, none⟩ (.bool s)).drewN k) b s zs := by
  have h1 : ((w1.setCell ⟨b, 1, none⟩ (.slice (some ⟨g, 0, none⟩) m c)).setCell ⟨b, 0, none⟩ (.bool s)).heap[b]? = some (.cells #[.bool s, .slice (some ⟨g, 0, none⟩) m c] 46 (0, 0)) := block_set (o := 0) (.bool s) (block_set (o := 1) (.slice (some ⟨g, 0, none⟩) m c) hb1)
  have h2 : ((w1.setCell ⟨b, 1, none⟩ (.slice (some ⟨g, 0, none⟩) m c)).setCell ⟨b, 0, none⟩ (.bool s)).heap[g]? = some (.cells xs 55 (0, 0)) := by
    rw [heap_set_other _ hgb, heap_set_other _ hgb]
    exact hg1
  exact IsInt.mkRow (xs := xs) h1 h2 hm hx
theorem Add_any (B b y : Nat) (w : World) (hB : B ≤ b) (hBs : B ≤ w.heap.size) (hb : Big B w b) (hy : Small w y) :
    Calls Yba.prog 14 #[.pointer (some ⟨b, 0, none⟩), .pointer (some ⟨b, 0, none⟩), .pointer (some ⟨y, 0, none⟩)] w fun e w' => e = .returned (.pointer (some ⟨b, 0, none⟩)) ∧
      (∃ (s : Bool) (zs : List Int), zs.length ≤ 2 ∧ IsInt w' b s zs) ∧ Below B w w' := by
  rcases hb with hb | ⟨ng, g, h, h0, h1, hg, hgb, hb, hrow⟩
  · have lb := heap_lt hb
    rcases hy with hy | ⟨p, x, x0, x1, hy, hp⟩
    · refine (Add_same false b y none none none 0 0 0 0 0 0 w w (by omega) hb hy hb fun k => (add_nil _ _ _ _ _).mono fun e w' h => ⟨h.1, k, h.2⟩).mono ?_
      rintro e w' ⟨rfl, s, k, rfl⟩
      exact ⟨rfl, ⟨s, [], by simp, IsInt.mk0 (block_set (o := 0) (.bool s) (block_set (o := 1) (.slice none 0 0) hb))⟩, below_dn (below_set (below_set (Below.refl _ _) hB _) hB _) k⟩
    · have hx : w.cell? ⟨p, 0, none⟩ = some (.int .u64 x) := cell_of_block hp rfl
      have hb1 : (w.alloc (.cells #[.int .u64 x] 55)).heap[b]? = some (.cells #[.bool false, .slice none 0 0] 46 (0, 0)) := (heap_old lb).trans hb
      have hg1 : (w.alloc (.cells #[.int .u64 x] 55)).heap[w.heap.size]? = some (.cells #[.int .u64 x] 55 (0, 0)) := heap_new rfl
      refine (Add_same false b y none _ (some ⟨w.heap.size, 0, none⟩) 0 0 1 1 1 1 w (w.alloc (.cells #[.int .u64 x] 55)) (by omega) hb hy hb1 fun k => (add_01 x _ _ _ _ _ (w.drewN k) hx).mono fun e w' h => ⟨h.1, k, h.2⟩).mono ?_
      rintro e w' ⟨rfl, s, k, rfl⟩
      refine ⟨rfl, ⟨s, [x], by simp, fin_row s k [x] (by omega) hb1 hg1 rfl fun i hi => ?_⟩, below_dn (below_set (below_set ((Below.refl _ _).alloc hBs _) hB _) hB _) k⟩
      obtain rfl : i = 0 := by simpa using hi
      rfl
  · rcases hy with hy | ⟨p, x, x0, x1, hy, hp⟩
    · have fin : ∀ (s : Bool) (k : Nat), IsInt (((w.setCell ⟨b, 1, none⟩ (.slice (some ⟨g, 0, none⟩) 2 7)).setCell ⟨b, 0, none⟩ (.bool s)).drewN k) b s [0, h] := fun s k =>
        fin_row s k [0, h] hgb hb hrow rfl fun i hi => by
          rcases (show i = 0 ∨ i = 1 by simp at hi; omega) with rfl | rfl <;> rfl
      cases ng
      · refine (Add_same false b y _ none (some ⟨g, 0, none⟩) 2 7 0 0 2 7 w w (by omega) hb hy hb fun k => (add_20 0 h g _ _ (w.drewN k) hrow).mono fun e w' h => ⟨h.1, k, h.2⟩).mono ?_
        rintro e w' ⟨rfl, s, k, rfl⟩
        exact ⟨rfl, ⟨s, [0, h], by simp, fin s k⟩, below_dn (below_set (below_set (Below.refl _ _) hB _) hB _) k⟩
      · refine (Add_diff b y _ none (some ⟨g, 0, none⟩) 2 7 0 0 2 7 w w (by omega) (by omega) (by omega) hb hy hb fun k => (sub_20 0 h g _ _ (w.drewN k) hrow).mono fun e w' h => ⟨h.1, k, h.2⟩).mono ?_
        rintro e w' ⟨rfl, s, k, rfl⟩
        exact ⟨rfl, ⟨s, [0, h], by simp, fin s k⟩, below_dn (below_set (below_set (Below.refl _ _) hB _) hB _) k⟩
    · have hx : w.cell? ⟨p, 0, none⟩ = some (.int .u64 x) := cell_of_block hp rfl
      have hbg : ¬ b = g := fun e => hgb e.symm
      cases ng
      · obtain ⟨w1, hw1⟩ : ∃ w1, w1 = ((w.setCell ⟨g, 0, none⟩ (.int .u64 x)).setCell ⟨g, 1, none⟩ (.int .u64 h)).setCell ⟨g, 2, none⟩ (.int .u64 0) := ⟨_, rfl⟩
        have hb1 : w1.heap[b]? = some (.cells #[.bool false, .slice (some ⟨g, 0, none⟩) 2 7] 46 (0, 0)) := by
          rw [hw1, heap_set_other _ hbg, heap_set_other _ hbg, heap_set_other _ hbg]; exact hb
        have hg1 : w1.heap[g]? = some (.cells (row7 x h 0) 55 (0, 0)) := by
          rw [hw1]; exact block_set (o := 2) (.int .u64 0) (block_set (o := 1) (.int .u64 h) (block_set (o := 0) (.int .u64 x) hrow))
        have bel : Below B w w1 := by rw [hw1]; exact below_set (below_set (below_set (Below.refl _ _) hg _) hg _) hg _
        refine (Add_same false b y _ _ (some ⟨g, 0, none⟩) 2 7 1 1 2 7 w w1 (by omega) hb hy hb1 fun k => (add_21 h x g p 0 1 (w.drewN k) h0 (by omega) x0 x1 (by omega) (by omega) hrow hx).mono ?_).mono ?_
        · rintro e w' ⟨rfl, k', rfl⟩
          exact ⟨rfl, k + k', by rw [hw1]; simp only [drewN_setCell, World.drewN_drewN]⟩
        rintro e w' ⟨rfl, s, k, rfl⟩
        refine ⟨rfl, ⟨s, [x, h], by simp, fin_row s k [x, h] hgb hb1 hg1 rfl fun i hi => ?_⟩, below_dn (below_set (below_set bel hB _) hB _) k⟩
        rcases (show i = 0 ∨ i = 1 by simp at hi; omega) with rfl | rfl <;> rfl
      · obtain ⟨w1, hw1⟩ : ∃ w1, w1 = (w.setCell ⟨g, 0, none⟩ (.int .u64 (18446744073709551616 - x))).setCell ⟨g, 1, none⟩ (.int .u64 (h - 1)) := ⟨_, rfl⟩
        have hb1 : w1.heap[b]? = some (.cells #[.bool true, .slice (some ⟨g, 0, none⟩) 2 7] 46 (0, 0)) := by
          rw [hw1, heap_set_other _ hbg, heap_set_other _ hbg]; exact hb
        have hg1 : w1.heap[g]? = some (.cells (row7 (18446744073709551616 - x) (h - 1) 0) 55 (0, 0)) := by
          rw [hw1]; exact block_set (o := 1) (.int .u64 (h - 1)) (block_set (o := 0) (.int .u64 (18446744073709551616 - x)) hrow)
        have bel : Below B w w1 := by rw [hw1]; exact below_set (below_set (Below.refl _ _) hg _) hg _
        refine (Add_diff b y _ _ (some ⟨g, 0, none⟩) 2 7 1 1 (if h = 1 then 1 else 2) 7 w w1 (by split <;> omega) (by omega) (by omega) hb hy hb1 fun k => (sub_21' h x g p 0 1 (w.drewN k) h0 (by omega) x0 x1 (by omega) (by omega) hrow hx).mono ?_).mono ?_
        · rintro e w' ⟨rfl, k', rfl⟩
          exact ⟨rfl, k + k', by rw [hw1]; simp only [drewN_setCell, World.drewN_drewN]⟩
        rintro e w' ⟨rfl, s, k, rfl⟩
        have bel2 : ∀ v u : Value, Below B w (((w1.setCell ⟨b, 1, none⟩ v).setCell ⟨b, 0, none⟩ u).drewN k) := fun v u => below_dn (below_set (below_set bel hB _) hB _) k
        by_cases he : h = 1
        · rw [if_pos he]
          refine ⟨rfl, ⟨s, [18446744073709551616 - x], by simp, fin_row s k _ hgb hb1 hg1 rfl fun i hi => ?_⟩, bel2 _ _⟩
          obtain rfl : i = 0 := by simpa using hi
          rfl
        · rw [if_neg he]
          refine ⟨rfl, ⟨s, [18446744073709551616 - x, h - 1], by simp, fin_row s k _ hgb hb1 hg1 rfl fun i hi => ?_⟩, bel2 _ _⟩
          rcases (show i = 0 ∨ i = 1 by simp at hi; omega) with rfl | rfl <;> rfl
theorem Lsh_any (B : Nat) (hi : Int) (l0 : -9223372036854775808 ≤ hi) (l1 : hi ≤ 9223372036854775807) (bz bx : Nat) (w : World) (hB : B ≤ w.heap.size) (hne : ¬ bz = bx) (hz : w.heap[bz]? = some (.cells #[.bool false, .slice none 0 0] 46 (0, 0))) (hx : IsInt w bx (decide (hi < 0)) (limbs hi)) :
    Calls Yba.prog 13 #[.pointer (some ⟨bz, 0, none⟩), .pointer (some ⟨bx, 0, none⟩), .int .u64 64] w fun e w' => e = .returned (.pointer (some ⟨bz, 0, none⟩)) ∧ Big B w' bz ∧ w.grownBy w' (some bz) := by
  obtain ⟨a, c, e1, e2⟩ := hx
  have lz := heap_lt hz
  by_cases h0 : hi = 0
  · subst h0
    refine (Lsh_nil false bz bx a c w hz e1 hne).mono ?_
    rintro e w' ⟨rfl, h1, h2⟩
    exact ⟨rfl, .inl h1, h2⟩
  · have hl : limbs hi = [(hi.natAbs : Int)] := by unfold limbs; rw [if_neg h0]
    rw [hl] at e1 e2
    obtain ⟨g, o, rfl, hc⟩ := e2 (by simp)
    have hc0 := hc 0 (by simp)
    refine (Lsh_one (decide (hi < 0)) hi.natAbs bz bx g o c w (by omega) hz e1 hc0 hne).mono ?_
    rintro e w' ⟨rfl, h1, h2, h3⟩
    exact ⟨rfl, .inr ⟨_, _, _, by omega, by omega, hB, by omega, h1, h2⟩, h3⟩
theorem SetU_any (x : Int) (x0 : 0 ≤ x) (x1 : x ≤ 18446744073709551615) (bz : Nat) (w : World) (hz : w.heap[bz]? = some (.cells #[.bool false, .slice none 0 0] 46 (0, 0))) :
    Calls Yba.prog 15 #[.pointer (some ⟨bz, 0, none⟩), .int .u64 x] w fun e w' => e = .returned (.pointer (some ⟨bz, 0, none⟩)) ∧ Small w' bz ∧ w.grownBy w' (some bz) := by
  by_cases h0 : x = 0
  · subst h0
    refine (SetUint64_0 bz w hz).mono ?_
    rintro e w' ⟨rfl, h1, h2⟩
    exact ⟨rfl, .inl h1, h2⟩
  · refine (SetUint64_1 x h0 bz w hz).mono ?_
    rintro e w' ⟨rfl, h1, h2, h3⟩
    exact ⟨rfl, .inr ⟨_, _, by omega, x1, h1, h2⟩, h3⟩
theorem Big.kept {B : Nat} {w w' : World} {b : Nat} (h : Big B w b) (hs : ∀ k, k < w.heap.size → w'.heap[k]? = w.heap[k]?) : Big B w' b := by
  rcases h with h | ⟨ng, g, x, h0, h1, h2, h3, h4, h5⟩
  · exact .inl ((hs _ (heap_lt h)).trans h)
  · exact .inr ⟨ng, g, x, h0, h1, h2, h3, (hs _ (heap_lt h4)).trans h4, (hs _ (heap_lt h5)).trans h5⟩
end Go.Proofs.Ybulkcfek.big
