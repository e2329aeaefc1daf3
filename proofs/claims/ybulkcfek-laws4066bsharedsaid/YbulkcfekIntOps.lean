import Derived.Test.YbulkcfekArith
namespace Go.Proofs.Ybulkcfek.big
open Go.ChangeShapes Go.WideShapes Go.ChangeAt Go.RowKit
set_option linter.unusedVariables false
/-- w' is w but for block b, for new blocks and for draws. -/
theorem grown_set {w : World} {b o : Nat} (v : Value) : w.grownBy (w.setCell ⟨b, o, none⟩ v) (some b) :=
  ⟨rfl, rfl, rfl, by simp [World.setCell], fun k hk hne => Below.heap_setCell _ _ _ _ (by intro e; exact hne (by rw [e]))⟩
theorem grown_drewN {w w' : World} {r : Option Nat} (h : w.grownBy w' r) (n : Nat) : w.grownBy (w'.drewN n) r := ⟨h.os, h.tape, h.output, h.size, h.block⟩
theorem grown_alloc' {w w' : World} {r : Option Nat} (h : w.grownBy w' r) (o : Obj) : w.grownBy (w'.alloc o) r :=
  ⟨h.os, h.tape, h.output, by have := h.size; simp; omega, fun k hk hne => (Below.heap_alloc _ _ _ (by have := h.size; omega)).trans (h.block k hk hne)⟩
theorem grown_set' {w w' : World} {b o : Nat} (h : w.grownBy w' (some b)) (v : Value) : w.grownBy (w'.setCell ⟨b, o, none⟩ v) (some b) :=
  ⟨h.os, h.tape, h.output, by have := h.size; simpa [World.setCell] using this, fun k hk hne => (Below.heap_setCell _ _ _ _ (by intro e; exact hne (by rw [e]))).trans (h.block k hk hne)⟩
theorem grown_refl (w : World) (r : Option Nat) : w.grownBy w r := ⟨rfl, rfl, rfl, Nat.le_refl _, fun _ _ _ => rfl⟩
set_option maxHeartbeats 800000 in
theorem Lsh_nil (ng : Bool) (bz bx : Nat) (a : Option Addr) (c : Nat) (w : World) (hz : w.heap[bz]? = some (.cells #[.bool false, .slice none 0 0] 46 (0, 0))) (hx : w.heap[bx]? = some (.cells #[.bool ng, .slice a 0 c] 46 (0, 0))) (hne : ¬ bz = bx) :
    Calls Yba.prog 13 #[.pointer (some ⟨bz, 0, none⟩), .pointer (some ⟨bx, 0, none⟩), .int .u64 64] w fun e w' => e = .returned (.pointer (some ⟨bz, 0, none⟩)) ∧
      w'.heap[bz]? = some (.cells #[.bool ng, .slice none 0 0] 46 (0, 0)) ∧ w.grownBy w' (some bz) := by
  have z0 : w.cell? ⟨bz, 0, none⟩ = some (.bool false) := cell_of_block (o := 0) hz rfl
  have z1 : w.cell? ⟨bz, 1, none⟩ = some (.slice none 0 0) := cell_of_block (o := 1) hz rfl
  have x0 : w.cell? ⟨bx, 0, none⟩ = some (.bool ng) := cell_of_block (o := 0) hx rfl
  have x1 : w.cell? ⟨bx, 1, none⟩ = some (.slice a 0 c) := cell_of_block (o := 1) hx rfl
  have f0 := free_of_block (o := 0) hz
  have f1 := free_of_block (o := 1) hz
  have b3 := block_set (o := 0) (.bool ng) (block_set (o := 1) (.slice none 0 0) hz)
  have HB : Hid (((w.setCell ⟨bz, 1, none⟩ (.slice none 0 0)).setCell ⟨bz, 0, none⟩ (.bool ng)).heap[bz]? = some (.cells #[.bool ng, .slice none 0 0] 46 (0, 0))) := b3
  clear hz hx b3
  go_enter Yba.func13, Yba.ntmps13
  go_wp2
  go_region_with (go_at_call 26; refine (lsh_nil _ _ _).mono ?_; rintro e w' ⟨rfl, hw⟩; obtain rfl := hw.symm)
  all_goals
    go_wp2
    go_ret
    exact ⟨rfl, HB.out, grown_drewN (w' := (w.setCell ⟨bz, 1, none⟩ (.slice none 0 0)).setCell ⟨bz, 0, none⟩ (.bool ng)) (grown_set' (grown_set _) _) 1⟩
theorem heap_lt {w : World} {b : Nat} {o : Obj} (h : w.heap[b]? = some o) : b < w.heap.size := lt_of_heap h
set_option maxHeartbeats 1600000 in
theorem Lsh_one (ng : Bool) (h : Int) (bz bx g o c : Nat) (w : World) (h0 : h ≠ 0) (hz : w.heap[bz]? = some (.cells #[.bool false, .slice none 0 0] 46 (0, 0))) (hx : w.heap[bx]? = some (.cells #[.bool ng, .slice (some ⟨g, o, none⟩) 1 c] 46 (0, 0))) (hh : w.cell? ⟨g, o, none⟩ = some (.int .u64 h)) (hne : ¬ bz = bx) :
    Calls Yba.prog 13 #[.pointer (some ⟨bz, 0, none⟩), .pointer (some ⟨bx, 0, none⟩), .int .u64 64] w fun e w' => e = .returned (.pointer (some ⟨bz, 0, none⟩)) ∧
      w'.heap[bz]? = some (.cells #[.bool ng, .slice (some ⟨w.heap.size, 0, none⟩) 2 7] 46 (0, 0)) ∧ w'.heap[w.heap.size]? = some (.cells (row7 0 h 0) 55 (0, 0)) ∧ w.grownBy w' (some bz) := by
  have lz := heap_lt hz
  have lx := heap_lt hx
  obtain ⟨w1, hw1⟩ : ∃ w1, w1 = w.alloc (.cells #[.int .u64 0, .int .u64 h, .int .u64 0, .int .u64 0, .int .u64 0, .int .u64 0, .int .u64 0] 55) := ⟨_, rfl⟩
  have hz1 : w1.heap[bz]? = some (.cells #[.bool false, .slice none 0 0] 46 (0, 0)) := by rw [hw1, heap_old lz]; exact hz
  have hx1 : w1.heap[bx]? = some (.cells #[.bool ng, .slice (some ⟨g, o, none⟩) 1 c] 46 (0, 0)) := by rw [hw1, heap_old lx]; exact hx
  have hg1 : w1.heap[w.heap.size]? = some (.cells (row7 0 h 0) 55 (0, 0)) := by rw [hw1]; exact heap_new rfl
  have G1 : w.grownBy w1 (some bz) := by rw [hw1]; exact grown_alloc' (grown_refl _ _) _
  have L : Hid (∀ n, Calls Yba.prog 26 #[.slice none 0 0, .slice (some ⟨g, o, none⟩) 1 c, .int .u64 64] (w.drewN n) fun e w' => e = .returned (.slice (some ⟨w.heap.size, 0, none⟩) 2 7) ∧ w' = w1.drewN n) := by
    intro n
    refine (lsh_one h g o c (w.drewN n) h0 hh).mono ?_
    rintro e w' ⟨rfl, rfl⟩
    rw [hw1]
    exact ⟨rfl, rfl⟩
  have a1 : w.cell? ⟨bz, 1, none⟩ = some (.slice none 0 0) := cell_of_block (o := 1) hz rfl
  have a2 : w.cell? ⟨bx, 1, none⟩ = some (.slice (some ⟨g, o, none⟩) 1 c) := cell_of_block (o := 1) hx rfl
  have z0 : w1.cell? ⟨bz, 0, none⟩ = some (.bool false) := cell_of_block (o := 0) hz1 rfl
  have z1 : w1.cell? ⟨bz, 1, none⟩ = some (.slice none 0 0) := cell_of_block (o := 1) hz1 rfl
  have x0 : w1.cell? ⟨bx, 0, none⟩ = some (.bool ng) := cell_of_block (o := 0) hx1 rfl
  have x1 : w1.cell? ⟨bx, 1, none⟩ = some (.slice (some ⟨g, o, none⟩) 1 c) := cell_of_block (o := 1) hx1 rfl
  have f0 := free_of_block (o := 0) hz1
  have f1 := free_of_block (o := 1) hz1
  have b3 := block_set (o := 0) (.bool ng) (block_set (o := 1) (.slice (some ⟨w.heap.size, 0, none⟩) 2 7) hz1)
  have HB : Hid (((w1.setCell ⟨bz, 1, none⟩ (.slice (some ⟨w.heap.size, 0, none⟩) 2 7)).setCell ⟨bz, 0, none⟩ (.bool ng)).heap[bz]? = some (.cells #[.bool ng, .slice (some ⟨w.heap.size, 0, none⟩) 2 7] 46 (0, 0))) := b3
  have HG : Hid (((w1.setCell ⟨bz, 1, none⟩ (.slice (some ⟨w.heap.size, 0, none⟩) 2 7)).setCell ⟨bz, 0, none⟩ (.bool ng)).heap[w.heap.size]? = some (.cells (row7 0 h 0) 55 (0, 0))) := by
    show _ = _
    rw [Below.heap_setCell _ _ _ _ (by show _ ≠ bz; omega), Below.heap_setCell _ _ _ _ (by show _ ≠ bz; omega)]
    exact hg1
  have HH : Hid (w.grownBy ((w1.setCell ⟨bz, 1, none⟩ (.slice (some ⟨w.heap.size, 0, none⟩) 2 7)).setCell ⟨bz, 0, none⟩ (.bool ng)) (some bz)) := grown_set' (grown_set' G1 _) _
  clear hz hx b3 hz1 hx1 hg1 G1 hw1 hh
  go_enter Yba.func13, Yba.ntmps13
  go_wp2
  go_region_with (go_at_call 26; refine (L.out 1).mono ?_; rintro e w' ⟨rfl, rfl⟩)
  all_goals
    go_wp2
    go_ret
    exact ⟨rfl, HB.out, HG.out, grown_drewN HH.out 1⟩
end Go.Proofs.Ybulkcfek.big
