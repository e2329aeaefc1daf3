import Derived.Test.YbulkcfekBig
namespace Go.Proofs.Ybulkcfek.big
open Go.ChangeShapes Go.WideShapes Go.ChangeAt Go.RowKit
set_option linter.unusedVariables false
theorem heap_new {w : World} {o : Obj} {k : Nat} (h : k = w.heap.size) : (w.alloc o).heap[k]? = some o := by
  subst h
  show (w.heap.push o)[w.heap.size]? = _
  simp
theorem heap_old {w : World} {o : Obj} {k : Nat} (h : k < w.heap.size) : (w.alloc o).heap[k]? = w.heap[k]? := Below.heap_alloc w o k h

/-- Block b holds a big.Int: its sign, its words (least first), each word where its slice says. -/
def IsInt (w : World) (b : Nat) (ng : Bool) (zs : List Int) : Prop :=
  ∃ (a : Option Addr) (c : Nat), w.heap[b]? = some (.cells #[.bool ng, .slice a zs.length c] 46 (0, 0)) ∧
    (0 < zs.length → ∃ g o, a = some ⟨g, o, none⟩ ∧ ∀ i, i < zs.length → w.cell? ⟨g, o + i, none⟩ = some (.int .u64 (zs.getD i 0)))

theorem lt_of_heap {w : World} {b : Nat} {o : Obj} (h : w.heap[b]? = some o) : b < w.heap.size := by
  by_cases hb : b < w.heap.size
  · exact hb
  · rw [Array.getElem?_eq_none (by omega)] at h; cases h
theorem lt_of_cell {w : World} {b o : Nat} {v : Value} (h : w.cell? ⟨b, o, none⟩ = some v) : b < w.heap.size := by
  by_cases hb : b < w.heap.size
  · exact hb
  · simp [World.cell?, Array.getElem?_eq_none (show w.heap.size ≤ b by omega)] at h
theorem IsInt.below {w w' : World} {b : Nat} {ng : Bool} {zs : List Int} (h : IsInt w b ng zs) (hb : Below w.heap.size w w') : IsInt w' b ng zs := by
  obtain ⟨a, c, h1, h2⟩ := h
  refine ⟨a, c, (hb.block b (lt_of_heap h1)).trans h1, fun hz => ?_⟩
  obtain ⟨g, o, ha, hc⟩ := h2 hz
  exact ⟨g, o, ha, fun i hi => (hb.cell (lt_of_cell (hc i hi))).trans (hc i hi)⟩
theorem IsInt.drewN {w : World} {b : Nat} {ng : Bool} {zs : List Int} (h : IsInt w b ng zs) (n : Nat) : IsInt (w.drewN n) b ng zs := h
theorem IsInt.lt {w : World} {b : Nat} {ng : Bool} {zs : List Int} (h : IsInt w b ng zs) : b < w.heap.size := by
  obtain ⟨a, c, h1, h2⟩ := h
  exact lt_of_heap h1

theorem ret_int {k : IntKind} {a b : Int} (h : a = b) : Ending.returned (.int k a) = .returned (.int k b) := by rw [h]

def limbs (n : Int) : List Int := if n = 0 then [] else [n.natAbs]

theorem negneg (n : Int) (h0 : n < 0) (h1 : -9223372036854775808 ≤ n) : IntKind.u64.wrap (-IntKind.u64.wrap n) = - n := by
  rw [IntKind.wrap_u64, IntKind.wrap_u64]
  omega

set_option maxHeartbeats 400000 in
theorem newInt_any (n : Int) (h0 : -9223372036854775808 ≤ n) (h1 : n ≤ 9223372036854775807) (w : World) :
    Calls Yba.prog 12 #[.int .i64 n] w fun e w' => ∃ b, e = .returned (.pointer (some ⟨b, 0, none⟩)) ∧ w.heap.size ≤ b ∧ IsInt w' b (decide (n < 0)) (limbs n) ∧ Below w.heap.size w w' := by
  by_cases hz : n = 0
  · subst hz
    go_enter Yba.func12, Yba.ntmps12
    go_wp2
    go_ret
    exact ⟨_, rfl, Nat.le_refl _, ⟨none, 0, heap_new rfl, fun h => absurd h (by simp [limbs])⟩, (Below.refl _ _).alloc (Nat.le_refl _) _⟩
  · have hz' : (n == 0) = false := by simpa using hz
    by_cases hn : n < 0
    · have hu := negneg n hn h0
      have hd : decide (n < 0) = true := by simpa using hn
      go_enter Yba.func12, Yba.ntmps12
      go_wp2
      go_ret
      refine ⟨_, rfl, by omega, ⟨some ⟨w.heap.size, 0, none⟩, 1, ?_, fun _ => ⟨_, _, rfl, ?_⟩⟩, ((Below.refl _ _).alloc (Nat.le_refl _) _).alloc (by simp) _⟩
      · rw [hd]
        simp only [limbs, if_neg hz]
        exact heap_new (by simp)
      · intro i hi
        simp only [limbs, if_neg hz, List.length_singleton] at hi
        obtain rfl : i = 0 := by omega
        simp [limbs, if_neg hz]
        omega
    · have hd : decide (n < 0) = false := by simpa using hn
      go_enter Yba.func12, Yba.ntmps12
      go_wp2
      go_ret
      refine ⟨_, rfl, by omega, ⟨some ⟨w.heap.size, 0, none⟩, 1, ?_, fun _ => ⟨_, _, rfl, ?_⟩⟩, ((Below.refl _ _).alloc (Nat.le_refl _) _).alloc (by simp) _⟩
      · simp only [limbs, if_neg hz]
        exact heap_new (by simp)
      · intro i hi
        simp only [limbs, if_neg hz, List.length_singleton] at hi
        obtain rfl : i = 0 := by omega
        simp [limbs, if_neg hz]
        omega

theorem IsInt.cells {w : World} {b : Nat} {ng : Bool} {zs : List Int} (h : IsInt w b ng zs) :
    ∃ a c, w.cell? ⟨b, 0, none⟩ = some (.bool ng) ∧ w.cell? ⟨b, 1, none⟩ = some (.slice a zs.length c) ∧
      (0 < zs.length → ∃ g o, a = some ⟨g, o, none⟩ ∧ ∀ i, i < zs.length → w.cell? ⟨g, o + i, none⟩ = some (.int .u64 (zs.getD i 0))) := by
  obtain ⟨a, c, h1, h2⟩ := h
  exact ⟨a, c, cell_of_block h1 rfl, cell_of_block h1 rfl, h2⟩

set_option maxHeartbeats 400000 in
theorem bigInt_any (n s : Int) (h0 : -9223372036854775808 ≤ n) (h1 : n ≤ 9223372036854775807) (w : World) :
    Calls Yba.prog 7 #[.agg #[.int .i64 n, .pointer none, .int .i64 s]] w fun e w' => ∃ b, e = .returned (.pointer (some ⟨b, 0, none⟩)) ∧ w.heap.size ≤ b ∧ IsInt w' b (decide (n < 0)) (limbs n) ∧ Below w.heap.size w w' := by
  go_enter Yba.func7, Yba.ntmps7
  go_wp2_with (go_at_call 12; refine (newInt_any n h0 h1 _).mono ?_; rintro e w' ⟨b, rfl, hb, hi, hbel⟩)
  go_ret
  simp at hb hbel
  exact ⟨_, rfl, by omega, hi, ((Below.refl _ _).alloc (Nat.le_refl _) _).trans (hbel.mono (by omega))⟩

theorem sign_nil (w : World) (b : Nat) (ng : Bool) (h : IsInt w b ng []) :
    Calls Yba.prog 8 #[.pointer (some ⟨b, 0, none⟩)] w fun e w' => e = .returned (.int .i64 0) ∧ w' = w := by
  obtain ⟨a, c, c0, c1, _⟩ := h.cells
  simp only [List.length_nil] at c1
  go_enter Yba.func8, Yba.ntmps8
  go_wp2
  go_ret
  exact ⟨rfl, rfl⟩
theorem sign_some (w : World) (b : Nat) (ng : Bool) (zs : List Int) (hz : 0 < zs.length) (h : IsInt w b ng zs) :
    Calls Yba.prog 8 #[.pointer (some ⟨b, 0, none⟩)] w fun e w' => e = .returned (.int .i64 (if ng then -1 else 1)) ∧ w' = w := by
  obtain ⟨a, c, c0, c1, _⟩ := h.cells
  have hz' : ((zs.length : Int) == 0) = false := by simp; intro h; simp [h] at hz
  cases ng
  all_goals
    go_enter Yba.func8, Yba.ntmps8
    go_wp2
    go_ret
    exact ⟨rfl, rfl⟩
theorem int64_nil (w : World) (b : Nat) (h : IsInt w b false []) :
    Calls Yba.prog 9 #[.pointer (some ⟨b, 0, none⟩)] w fun e w' => e = .returned (.int .i64 0) ∧ w' = w := by
  obtain ⟨a, c, c0, c1, _⟩ := h.cells
  simp only [List.length_nil] at c1
  go_enter Yba.func9, Yba.ntmps9
  go_wp2
  go_ret
  exact ⟨rfl, rfl⟩
theorem int64_pos (w : World) (b : Nat) (z : Int) (h0 : 0 ≤ z) (h1 : z ≤ 9223372036854775807) (h : IsInt w b false [z]) :
    Calls Yba.prog 9 #[.pointer (some ⟨b, 0, none⟩)] w fun e w' => e = .returned (.int .i64 z) ∧ w' = w := by
  obtain ⟨a, c, c0, c1, c2⟩ := h.cells
  obtain ⟨g, o, rfl, hc⟩ := c2 (by simp)
  have hc0 := hc 0 (by simp)
  simp at c1 hc0
  clear hc c2
  go_enter Yba.func9, Yba.ntmps9
  go_wp2
  go_ret
  exact ⟨rfl, rfl⟩
theorem int64_neg (w : World) (b : Nat) (z : Int) (h0 : 0 < z) (h1 : z ≤ 9223372036854775808) (h : IsInt w b true [z]) :
    Calls Yba.prog 9 #[.pointer (some ⟨b, 0, none⟩)] w fun e w' => e = .returned (.int .i64 (-z)) ∧ w' = w := by
  obtain ⟨a, c, c0, c1, c2⟩ := h.cells
  obtain ⟨g, o, rfl, hc⟩ := c2 (by simp)
  have hc0 := hc 0 (by simp)
  simp at c1 hc0
  clear hc c2
  go_enter Yba.func9, Yba.ntmps9
  go_wp2
  go_ret
  exact ⟨ret_int (by unfold wrap64; omega), rfl⟩
theorem bitLenI (w : World) (b : Nat) (ng : Bool) (zs : List Int) (h : IsInt w b ng zs) (hz : zs.length ≤ 1) :
    Calls Yba.prog 10 #[.pointer (some ⟨b, 0, none⟩)] w fun e w' => ∃ k : Int, 0 ≤ k ∧ k ≤ 64 ∧ e = .returned (.int .i64 k) ∧ w' = w := by
  obtain ⟨a, c, c0, c1, c2⟩ := h.cells
  by_cases h0 : zs.length = 0
  · rw [h0] at c1
    clear c2 h0 hz
    go_enter Yba.func10, Yba.ntmps10
    go_wp2_with (go_at_call 24; refine (bitLen_nil _ _ _).mono ?_; rintro e w' ⟨rfl, rfl⟩)
    go_ret
    exact ⟨0, by omega, by omega, rfl, rfl⟩
  · obtain ⟨g, o, rfl, hc⟩ := c2 (by omega)
    have hc0 := hc 0 (by omega)
    rw [Nat.add_zero] at hc0
    rw [show zs.length = 1 by omega] at c1
    clear hc c2 h0 hz
    go_enter Yba.func10, Yba.ntmps10
    go_wp2_with (go_at_call 24; refine (bitLen_one _ _ _ _ _ hc0).mono ?_; rintro e w' ⟨k, hk0, hk1, rfl, rfl⟩)
    go_ret
    exact ⟨_, hk0, hk1, rfl, rfl⟩
theorem cmp_any (w : World) (b1 b2 : Nat) (ng : Bool) (zs : List Int) (hm : zs.length ≤ 9223372036854775807) (hne : ¬ b1 = b2) (h1 : IsInt w b1 ng zs) (h2 : IsInt w b2 ng zs) :
    Calls Yba.prog 11 #[.pointer (some ⟨b1, 0, none⟩), .pointer (some ⟨b2, 0, none⟩)] w fun e w' => e = .returned (.int .i64 0) ∧ ∃ k, w' = w.drewN k := by
  obtain ⟨a1, c1, e1, f1⟩ := h1
  obtain ⟨a2, c2, e2, f2⟩ := h2
  refine cmp_eq b1 b2 ng a1 a2 zs.length c1 c2 w hne e1 e2 fun k => ?_
  by_cases h0 : zs.length = 0
  · rw [h0]
    exact natcmp_nil _ _ _ _ _
  · obtain ⟨g1, o1, rfl, x1⟩ := f1 (by omega)
    obtain ⟨g2, o2, rfl, x2⟩ := f2 (by omega)
    exact natcmp_eq _ zs _ _ _ _ _ _ _ (by omega) hm x1 x2
end Go.Proofs.Ybulkcfek.big
