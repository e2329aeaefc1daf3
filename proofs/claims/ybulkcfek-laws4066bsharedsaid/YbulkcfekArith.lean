import Derived.Test.YbulkcfekWords
namespace Go.Proofs.Ybulkcfek.big
open Go.ChangeShapes Go.WideShapes Go.ChangeAt Go.RowKit
set_option linter.unusedVariables false
theorem block_set {w : World} {g o : Nat} {xs : Array Value} {t : TypeId} (v : Value) (hb : w.heap[g]? = some (.cells xs t (0, 0))) : (w.setCell ⟨g, o, none⟩ v).heap[g]? = some (.cells (xs.setIfInBounds o v) t (0, 0)) := by
  simp only [World.setCell, Array.getElem?_modify, hb]
  simp
theorem free_of_block {w : World} {g o : Nat} {xs : Array Value} {t : TypeId} (hb : w.heap[g]? = some (.cells xs t (0, 0))) : w.frozen? ⟨g, o, none⟩ = false := by
  simp [World.frozen?, hb]
theorem setRow_same {w : World} {g : Nat} {xs : Array Value} {t : TypeId} (hb : w.heap[g]? = some (.cells xs t (0, 0))) : w.setRow g xs = w := by
  have h : (w.setRow g xs).heap = w.heap := by
    apply Array.ext_getElem?
    intro i
    simp only [World.setRow, Array.getElem?_modify]
    split
    · rename_i e; subst e; rw [hb]; rfl
    · rfl
  show { w with heap := (w.setRow g xs).heap } = w
  rw [h]
def row7 (a b c : Int) : Array Value := #[.int .u64 a, .int .u64 b, .int .u64 c, .int .u64 0, .int .u64 0, .int .u64 0, .int .u64 0]
theorem set_same (x h : Int) (g : Nat) (w : World) (hb : w.heap[g]? = some (.cells (row7 x h 0) 55 (0, 0))) :
    Calls Yba.prog 30 #[.slice (some ⟨g, 0, none⟩) 2 7, .slice (some ⟨g, 0, none⟩) 2 7] w fun e w' => e = .returned (.slice (some ⟨g, 0, none⟩) 2 7) ∧ w' = w := by
  have hcp : (Builtin.copy_ #[44, 44] 3 #[.slice (some ⟨g, 0, none⟩) 2 7, .slice (some ⟨g, 0, none⟩) 2 7]).run Yba.prog w = .ok (.int .i64 2) w := by
    refine (run_copy_row (P := Yba.prog) w 44 44 3 55 g 0 2 7 ⟨g, 0, none⟩ 2 7 _ 55 [.int .u64 x, .int .u64 h] Yba.underlying44 size55 hb rfl ?_ (by simp [row7]) (by simp [Value.oneCell'])).trans ?_
    · intro j v hj
      match j, hj with
      | 0, hj => simp at hj; subst hj; exact cell_of_block hb rfl
      | 1, hj => simp at hj; subst hj; exact cell_of_block hb rfl
    · show Result.ok _ (w.setRow g (row7 x h 0)) = _
      rw [setRow_same hb]
      rfl
  clear hb
  go_enter Yba.func30, Yba.ntmps30
  go_wp2_with (go_at_call 34; refine (make_reuse _ _ 2 _ (by omega) (by omega) _).mono ?_; rintro e w' ⟨rfl, rfl⟩)
  go_ret
  exact ⟨rfl, rfl⟩
theorem set_nil (a : Option Addr) (c : Nat) (w : World) :
    Calls Yba.prog 30 #[.slice none 0 0, .slice a 0 c] w fun e w' => e = .returned (.slice none 0 0) ∧ w' = w := by
  have hcp : (Builtin.copy_ #[44, 44] 3 #[.slice none 0 0, .slice a 0 c]).run Yba.prog w = .ok (.int .i64 0) w :=
    run_copy_none (P := Yba.prog) w 44 44 3 55 none a 0 0 0 c Yba.underlying44 size55 rfl
  go_enter Yba.func30, Yba.ntmps30
  go_wp2_with (go_at_call 34; refine (make_0 _).mono ?_; rintro e w' ⟨rfl, rfl⟩)
  go_ret
  exact ⟨rfl, rfl⟩
theorem set_one (x : Int) (g o c : Nat) (w : World) (hx : w.cell? ⟨g, o, none⟩ = some (.int .u64 x)) :
    Calls Yba.prog 30 #[.slice none 0 0, .slice (some ⟨g, o, none⟩) 1 c] w fun e w' => e = .returned (.slice (some ⟨w.heap.size, 0, none⟩) 1 1) ∧ w' = w.alloc (.cells #[.int .u64 x] 55) := by
  have hcp : (Builtin.copy_ #[44, 44] 3 #[.slice (some ⟨w.heap.size, 0, none⟩) 1 1, .slice (some ⟨g, o, none⟩) 1 c]).run Yba.prog (w.alloc (.cells #[.int .u64 0] 55)) = .ok (.int .i64 1) (w.alloc (.cells #[.int .u64 x] 55)) := by
    refine (run_copy_row (P := Yba.prog) _ 44 44 3 55 w.heap.size 0 1 1 ⟨g, o, none⟩ 1 c _ 55 [.int .u64 x] Yba.underlying44 size55 (heap_new rfl) rfl ?_ (by simp) (by simp [Value.oneCell'])).trans ?_
    · intro j v hj
      match j, hj with
      | 0, hj => simp at hj; subst hj; exact Lib.cell?_alloc_some _ hx
    · rw [World.setRow_alloc_new]
      rfl
  go_enter Yba.func30, Yba.ntmps30
  go_wp2_with (go_at_call 34; refine (make_1 _).mono ?_; rintro e w' ⟨rfl, rfl⟩)
  go_ret
  exact ⟨rfl, rfl⟩
theorem set_two (x y : Int) (g o c : Nat) (w : World) (hx : w.cell? ⟨g, o, none⟩ = some (.int .u64 x)) (hy : w.cell? ⟨g, o + 1, none⟩ = some (.int .u64 y)) :
    Calls Yba.prog 30 #[.slice none 0 0, .slice (some ⟨g, o, none⟩) 2 c] w fun e w' => e = .returned (.slice (some ⟨w.heap.size, 0, none⟩) 2 6) ∧ w' = w.alloc (.cells #[.int .u64 x, .int .u64 y, .int .u64 0, .int .u64 0, .int .u64 0, .int .u64 0] 55) := by
  have hcp : (Builtin.copy_ #[44, 44] 3 #[.slice (some ⟨w.heap.size, 0, none⟩) 2 6, .slice (some ⟨g, o, none⟩) 2 c]).run Yba.prog (w.alloc (.cells #[.int .u64 0, .int .u64 0, .int .u64 0, .int .u64 0, .int .u64 0, .int .u64 0] 55)) = .ok (.int .i64 2) (w.alloc (.cells #[.int .u64 x, .int .u64 y, .int .u64 0, .int .u64 0, .int .u64 0, .int .u64 0] 55)) := by
    refine (run_copy_row (P := Yba.prog) _ 44 44 3 55 w.heap.size 0 2 6 ⟨g, o, none⟩ 2 c _ 55 [.int .u64 x, .int .u64 y] Yba.underlying44 size55 (heap_new rfl) rfl ?_ (by simp) (by simp [Value.oneCell'])).trans ?_
    · intro j v hj
      match j, hj with
      | 0, hj => simp at hj; subst hj; exact Lib.cell?_alloc_some _ hx
      | 1, hj => simp at hj; subst hj; exact Lib.cell?_alloc_some _ hy
    · rw [World.setRow_alloc_new]
      rfl
  go_enter Yba.func30, Yba.ntmps30
  go_wp2_with (go_at_call 34; refine (make_2 _).mono ?_; rintro e w' ⟨rfl, rfl⟩)
  go_ret
  exact ⟨rfl, rfl⟩
/-! ### nat.add -/
theorem add_nil (a b : Option Addr) (c d : Nat) (w : World) :
    Calls Yba.prog 27 #[.slice none 0 0, .slice a 0 c, .slice b 0 d] w fun e w' => e = .returned (.slice none 0 0) ∧ w' = w := by
  go_enter Yba.func27, Yba.ntmps27
  go_wp2
  go_ret
  exact ⟨rfl, rfl⟩
theorem add_one0 (x : Int) (g o c : Nat) (b : Option Addr) (d : Nat) (w : World) (hx : w.cell? ⟨g, o, none⟩ = some (.int .u64 x)) :
    Calls Yba.prog 27 #[.slice none 0 0, .slice (some ⟨g, o, none⟩) 1 c, .slice b 0 d] w fun e w' => e = .returned (.slice (some ⟨w.heap.size, 0, none⟩) 1 1) ∧ w' = w.alloc (.cells #[.int .u64 x] 55) := by
  go_enter Yba.func27, Yba.ntmps27
  go_wp2_with (go_at_call 30; refine (set_one x _ _ _ _ hx).mono ?_; rintro e w' ⟨rfl, rfl⟩)
  go_ret
  exact ⟨rfl, rfl⟩
theorem add_01 (x : Int) (g o c : Nat) (b : Option Addr) (d : Nat) (w : World) (hx : w.cell? ⟨g, o, none⟩ = some (.int .u64 x)) :
    Calls Yba.prog 27 #[.slice none 0 0, .slice b 0 d, .slice (some ⟨g, o, none⟩) 1 c] w fun e w' => e = .returned (.slice (some ⟨w.heap.size, 0, none⟩) 1 1) ∧ w' = w.alloc (.cells #[.int .u64 x] 55) := by
  go_enter Yba.func27, Yba.ntmps27
  go_wp2_with (go_at_call 27; refine (add_one0 x _ _ _ _ _ _ hx).mono ?_; rintro e w' ⟨rfl, rfl⟩)
  go_ret
  exact ⟨rfl, rfl⟩
theorem add_20 (x h : Int) (g : Nat) (b : Option Addr) (d : Nat) (w : World) (hb : w.heap[g]? = some (.cells (row7 x h 0) 55 (0, 0))) :
    Calls Yba.prog 27 #[.slice (some ⟨g, 0, none⟩) 2 7, .slice (some ⟨g, 0, none⟩) 2 7, .slice b 0 d] w fun e w' => e = .returned (.slice (some ⟨g, 0, none⟩) 2 7) ∧ w' = w := by
  go_enter Yba.func27, Yba.ntmps27
  go_wp2_with (go_at_call 30; refine (set_same x h _ _ hb).mono ?_; rintro e w' ⟨rfl, rfl⟩)
  go_ret
  exact ⟨rfl, rfl⟩
theorem sub_20 (x h : Int) (g : Nat) (b : Option Addr) (d : Nat) (w : World) (hb : w.heap[g]? = some (.cells (row7 x h 0) 55 (0, 0))) :
    Calls Yba.prog 28 #[.slice (some ⟨g, 0, none⟩) 2 7, .slice (some ⟨g, 0, none⟩) 2 7, .slice b 0 d] w fun e w' => e = .returned (.slice (some ⟨g, 0, none⟩) 2 7) ∧ w' = w := by
  go_enter Yba.func28, Yba.ntmps28
  go_wp2_with (go_at_call 30; refine (set_same x h _ _ hb).mono ?_; rintro e w' ⟨rfl, rfl⟩)
  go_ret
  exact ⟨rfl, rfl⟩
theorem addVV_zero (y : Int) (g o c1 c2 c3 h p : Nat) (w : World) (hy0 : 0 ≤ y) (hy1 : y ≤ 18446744073709551615)
    (hx : w.cell? ⟨g, o, none⟩ = some (.int .u64 0)) (hf : w.frozen? ⟨g, o, none⟩ = false) (hy : w.cell? ⟨h, p, none⟩ = some (.int .u64 y)) :
    Calls Yba.prog 17 #[.slice (some ⟨g, o, none⟩) 1 c1, .slice (some ⟨g, o, none⟩) 1 c2, .slice (some ⟨h, p, none⟩) 1 c3] w fun e w' =>
      e = .returned (.int .u64 0) ∧ ∃ k, w' = (w.setCell ⟨g, o, none⟩ (.int .u64 y)).drewN k := by
  have := addVV_one 0 y g o c1 c2 c3 h p w (by omega) (by omega) hy0 hy1 hx hf hy
  rw [show (0 + y) / 18446744073709551616 = 0 by omega, show (0 + y) % 18446744073709551616 = y by omega] at this
  exact this
theorem drew_drewN (w : World) (a : Addr) (v : Value) (k : Nat) : (w.drew.setCell a v).drewN k = (w.setCell a v).drewN (1 + k) := by
  show World.mk _ _ _ _ _ = World.mk _ _ _ _ _
  congr 1
  show w.drawn + 1 + k = w.drawn + (1 + k)
  omega
theorem drewN_setCell (w : World) (a : Addr) (v : Value) (k : Nat) : (w.drewN k).setCell a v = (w.setCell a v).drewN k := rfl
theorem drewN_cell (w : World) (a : Addr) (k : Nat) : (w.drewN k).cell? a = w.cell? a := rfl
set_option maxHeartbeats 800000 in
theorem add_21 (h y : Int) (g p q c : Nat) (w : World) (hh0 : 0 < h) (hh1 : h ≤ 18446744073709551614) (hy0 : 0 < y) (hy1 : y ≤ 18446744073709551615) (hc1 : 1 ≤ c) (hc2 : c ≤ 9223372036854775807)
    (hb : w.heap[g]? = some (.cells (row7 0 h 0) 55 (0, 0))) (hy : w.cell? ⟨p, q, none⟩ = some (.int .u64 y)) :
    Calls Yba.prog 27 #[.slice (some ⟨g, 0, none⟩) 2 7, .slice (some ⟨g, 0, none⟩) 2 7, .slice (some ⟨p, q, none⟩) 1 c] w fun e w' => e = .returned (.slice (some ⟨g, 0, none⟩) 2 7) ∧
      ∃ k, w' = (((w.setCell ⟨g, 0, none⟩ (.int .u64 y)).setCell ⟨g, 1, none⟩ (.int .u64 h)).setCell ⟨g, 2, none⟩ (.int .u64 0)).drewN k := by
  have c0 : w.cell? ⟨g, 0, none⟩ = some (.int .u64 0) := cell_of_block (o := 0) hb rfl
  have c1 : w.cell? ⟨g, 1, none⟩ = some (.int .u64 h) := cell_of_block (o := 1) hb rfl
  have c2 : w.cell? ⟨g, 2, none⟩ = some (.int .u64 0) := cell_of_block (o := 2) hb rfl
  have f0 := free_of_block (o := 0) hb
  have f1 := free_of_block (o := 1) hb
  have f2 := free_of_block (o := 2) hb
  have A : Hid (Calls Yba.prog 17 #[.slice (some ⟨g, 0, none⟩) 1 7, .slice (some ⟨g, 0, none⟩) 1 7, .slice (some ⟨p, q, none⟩) 1 c] w.drew fun e w' => e = .returned (.int .u64 0) ∧ ∃ k, w' = (w.setCell ⟨g, 0, none⟩ (.int .u64 y)).drewN k) := by
    refine (addVV_zero y g 0 7 7 c p q w.drew (by omega) hy1 c0 f0 hy).mono ?_
    rintro e w' ⟨rfl, k, rfl⟩
    exact ⟨rfl, _, drew_drewN _ _ _ _⟩
  have b3 := block_set (o := 2) (.int .u64 0) (block_set (o := 1) (.int .u64 h) (block_set (o := 0) (.int .u64 y) hb))
  have K0 : Hid ((((w.setCell ⟨g, 0, none⟩ (.int .u64 y)).setCell ⟨g, 1, none⟩ (.int .u64 h)).setCell ⟨g, 2, none⟩ (.int .u64 0)).cell? ⟨g, 0, none⟩ = some (.int .u64 y)) := cell_of_block (o := 0) b3 rfl
  have K1 : Hid ((((w.setCell ⟨g, 0, none⟩ (.int .u64 y)).setCell ⟨g, 1, none⟩ (.int .u64 h)).setCell ⟨g, 2, none⟩ (.int .u64 0)).cell? ⟨g, 1, none⟩ = some (.int .u64 h)) := cell_of_block (o := 1) b3 rfl
  have K2 : Hid ((((w.setCell ⟨g, 0, none⟩ (.int .u64 y)).setCell ⟨g, 1, none⟩ (.int .u64 h)).setCell ⟨g, 2, none⟩ (.int .u64 0)).cell? ⟨g, 2, none⟩ = some (.int .u64 0)) := cell_of_block (o := 2) b3 rfl
  have D1 : Hid ((w.setCell ⟨g, 0, none⟩ (.int .u64 y)).cell? ⟨g, 1, none⟩ = some (.int .u64 h)) := cell_of_block (o := 1) (block_set (o := 0) (.int .u64 y) hb) rfl
  have E1 : Hid ((w.setCell ⟨g, 0, none⟩ (.int .u64 y)).frozen? ⟨g, 1, none⟩ = false) := free_of_block (o := 1) (block_set (o := 0) (.int .u64 y) hb)
  clear hb b3
  have hs1 := addVV_enters
  go_enter Yba.func27, Yba.ntmps27
  go_wp2_with (go_at_call 34; refine (make_reuse _ _ 3 _ (by omega) (by omega) _).mono ?_; rintro e w' ⟨rfl, hw⟩; obtain rfl := hw.symm)
  go_region_with (go_at_call 17; refine A.out.mono ?_; rintro e w' ⟨rfl, k, rfl⟩)
  clear A
  go_wp2
  go_region_with (go_at_call 38; refine (addVW_one h 0 _ _ _ _ _ (by omega) (by omega) (by omega) ?_ ?_).mono ?_; exact D1.out; exact E1.out; rintro e w' ⟨rfl, k2, rfl⟩)
  go_wp2_with (go_at_call 36; refine (norm_two (x := y) h _ _ _ _ (by omega) (by omega) ?_ ?_ ?_).mono ?_; exact K0.out; exact K1.out; exact K2.out; rintro e w' ⟨rfl, hw⟩)
  go_ret
  exact ⟨rfl, k + 1 + k2, by simp only [drewN_setCell, World.drewN_drewN]⟩
theorem subVV_zero (y : Int) (g o c1 c2 c3 h p : Nat) (w : World) (hy0 : 0 < y) (hy1 : y ≤ 18446744073709551615)
    (hx : w.cell? ⟨g, o, none⟩ = some (.int .u64 0)) (hf : w.frozen? ⟨g, o, none⟩ = false) (hy : w.cell? ⟨h, p, none⟩ = some (.int .u64 y)) :
    Calls Yba.prog 18 #[.slice (some ⟨g, o, none⟩) 1 c1, .slice (some ⟨g, o, none⟩) 1 c2, .slice (some ⟨h, p, none⟩) 1 c3] w fun e w' =>
      e = .returned (.int .u64 1) ∧ ∃ k, w' = (w.setCell ⟨g, o, none⟩ (.int .u64 (18446744073709551616 - y))).drewN k := by
  have := subVV_one 0 y g o c1 c2 c3 h p w (by omega) (by omega) (by omega) hy1 hx hf hy
  rw [show bor 0 y 0 = 1 by unfold bor; rw [if_pos (by omega)], show (0 - y) % 18446744073709551616 = 18446744073709551616 - y by omega] at this
  exact this
set_option maxHeartbeats 800000 in
theorem sub_21 (h y : Int) (g p q c : Nat) (w : World) (hh0 : 0 < h) (hh1 : h ≤ 18446744073709551614) (hy0 : 0 < y) (hy1 : y ≤ 18446744073709551615) (hc1 : 1 ≤ c) (hc2 : c ≤ 9223372036854775807)
    (hb : w.heap[g]? = some (.cells (row7 0 h 0) 55 (0, 0))) (hy : w.cell? ⟨p, q, none⟩ = some (.int .u64 y)) :
    Calls Yba.prog 28 #[.slice (some ⟨g, 0, none⟩) 2 7, .slice (some ⟨g, 0, none⟩) 2 7, .slice (some ⟨p, q, none⟩) 1 c] w fun e w' => ∃ m : Nat, m ≤ 2 ∧ ((∀ i, m ≤ i → i < [18446744073709551616 - y, h - 1].length → [18446744073709551616 - y, h - 1].getD i 0 = 0) ∧ (0 < m → [18446744073709551616 - y, h - 1].getD (m - 1) 0 ≠ 0)) ∧ e = .returned (.slice (some ⟨g, 0, none⟩) m 7) ∧
      ∃ k, w' = ((w.setCell ⟨g, 0, none⟩ (.int .u64 (18446744073709551616 - y))).setCell ⟨g, 1, none⟩ (.int .u64 (h - 1))).drewN k := by
  have c0 : w.cell? ⟨g, 0, none⟩ = some (.int .u64 0) := cell_of_block (o := 0) hb rfl
  have c1 : w.cell? ⟨g, 1, none⟩ = some (.int .u64 h) := cell_of_block (o := 1) hb rfl
  have f0 := free_of_block (o := 0) hb
  have f1 := free_of_block (o := 1) hb
  have A : Hid (Calls Yba.prog 18 #[.slice (some ⟨g, 0, none⟩) 1 7, .slice (some ⟨g, 0, none⟩) 1 7, .slice (some ⟨p, q, none⟩) 1 c] w.drew fun e w' => e = .returned (.int .u64 1) ∧ ∃ k, w' = (w.setCell ⟨g, 0, none⟩ (.int .u64 (18446744073709551616 - y))).drewN k) := by
    refine (subVV_zero y g 0 7 7 c p q w.drew (by omega) hy1 c0 f0 hy).mono ?_
    rintro e w' ⟨rfl, k, rfl⟩
    exact ⟨rfl, _, drew_drewN _ _ _ _⟩
  obtain ⟨z, hz⟩ : ∃ z, z = 18446744073709551616 - y := ⟨_, rfl⟩
  rw [← hz] at A ⊢
  clear hz
  have b3 := block_set (o := 1) (.int .u64 (h - 1)) (block_set (o := 0) (.int .u64 z) hb)
  have K : Hid (∀ i, i < [z, h - 1].length → ((w.setCell ⟨g, 0, none⟩ (.int .u64 z)).setCell ⟨g, 1, none⟩ (.int .u64 (h - 1))).cell? ⟨g, 0 + i, none⟩ = some (.int .u64 ([z, h - 1].getD i 0))) := cells2 (cell_of_block (o := 0) b3 rfl) (cell_of_block (o := 1) b3 rfl)
  have D1 : Hid ((w.setCell ⟨g, 0, none⟩ (.int .u64 z)).cell? ⟨g, 1, none⟩ = some (.int .u64 h)) := cell_of_block (o := 1) (block_set (o := 0) (.int .u64 z) hb) rfl
  have E1 : Hid ((w.setCell ⟨g, 0, none⟩ (.int .u64 z)).frozen? ⟨g, 1, none⟩ = false) := free_of_block (o := 1) (block_set (o := 0) (.int .u64 z) hb)
  clear hb b3
  have hs1 := subVV_enters
  go_enter Yba.func28, Yba.ntmps28
  go_wp2_with (go_at_call 34; refine (make_reuse _ _ 2 _ (by omega) (by omega) _).mono ?_; rintro e w' ⟨rfl, hw⟩; obtain rfl := hw.symm)
  go_region_with (go_at_call 18; refine A.out.mono ?_; rintro e w' ⟨rfl, k, rfl⟩)
  clear A
  go_wp2
  go_region_with (go_at_call 41; refine (subVW_one h 1 _ _ _ _ _ (by omega) (by omega) (by omega) ?_ ?_).mono ?_; exact D1.out; exact E1.out; rintro e w' ⟨rfl, k2, rfl⟩)
  go_wp2_with (go_at_call 36; refine (norm_any [z, h - 1] _ 0 _ _ (by simp) (by omega) ?_).mono ?_; exact K.out; rintro e w' ⟨m, hm, hm1, hm2, rfl, hw⟩)
  go_ret
  exact ⟨m, by simpa using hm, ⟨hm1, hm2⟩, rfl, k + 1 + k2, by simp only [drewN_setCell, World.drewN_drewN]⟩
theorem sub_21' (h y : Int) (g p q c : Nat) (w : World) (hh0 : 0 < h) (hh1 : h ≤ 18446744073709551614) (hy0 : 0 < y) (hy1 : y ≤ 18446744073709551615) (hc1 : 1 ≤ c) (hc2 : c ≤ 9223372036854775807)
    (hb : w.heap[g]? = some (.cells (row7 0 h 0) 55 (0, 0))) (hy : w.cell? ⟨p, q, none⟩ = some (.int .u64 y)) :
    Calls Yba.prog 28 #[.slice (some ⟨g, 0, none⟩) 2 7, .slice (some ⟨g, 0, none⟩) 2 7, .slice (some ⟨p, q, none⟩) 1 c] w fun e w' => e = .returned (.slice (some ⟨g, 0, none⟩) (if h = 1 then 1 else 2) 7) ∧
      ∃ k, w' = ((w.setCell ⟨g, 0, none⟩ (.int .u64 (18446744073709551616 - y))).setCell ⟨g, 1, none⟩ (.int .u64 (h - 1))).drewN k := by
  refine (sub_21 h y g p q c w hh0 hh1 hy0 hy1 hc1 hc2 hb hy).mono ?_
  rintro e w' ⟨m, h2, ⟨ha, hn⟩, rfl, k, rfl⟩
  have : m = if h = 1 then 1 else 2 := by
    rcases (show m = 0 ∨ m = 1 ∨ m = 2 by omega) with rfl | rfl | rfl
    · have := ha 0 (by omega) (by simp)
      simp at this
      omega
    · have := ha 1 (by omega) (by simp)
      simp at this
      rw [if_pos (by omega)]
    · have := hn (by omega)
      simp at this
      rw [if_neg (by omega)]
  rw [this]
  exact ⟨rfl, k, rfl⟩
end Go.Proofs.Ybulkcfek.big
