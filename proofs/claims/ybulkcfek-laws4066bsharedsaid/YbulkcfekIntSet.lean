import Derived.Test.YbulkcfekIntOps
namespace Go.Proofs.Ybulkcfek.big
open Go.ChangeShapes Go.WideShapes Go.ChangeAt Go.RowKit
set_option linter.unusedVariables false
theorem neq_other (b1 o1 b2 o2 : Nat) (w : World) (hne : ¬ b1 = b2) {x1 x2 : Array Value} {t1 t2 : TypeId}
   (hb1 : w.heap[b1]? = some (.cells x1 t1 (0, 0))) (hb2 : w.heap[b2]? = some (.cells x2 t2 (0, 0))) :
   (binOp .neq 23 (.pointer (some ⟨b1, o1, none⟩)) (.pointer (some ⟨b2, o2, none⟩))).run Yba.prog w = .ok (.bool true) w := by
  have h := info46
  cases hj : Yba.prog.info? 46 with
  | none => rw [hj] at h; simp at h
  | some j =>
    rw [hj] at h
    simp at h
    have hn : (⟨b1, o1, none⟩ : Addr) ≠ ⟨b2, o2, none⟩ := by intro e; cases e; exact hne rfl
    have h2 : ∀ d : Nat, (Op.equalIn (d + 1) 23 (.pointer (some ⟨b1, o1, none⟩)) (.pointer (some ⟨b2, o2, none⟩))).run Yba.prog w = .ok false w := fun d => by
      simp [Op.equalIn, run_underlying Yba.underlying23, sizeOf, typeInfo, hj, h, run_sameAddr_other w hn hb1 hb2]
    simp only [binOp]
    simp [Op.equal, Op.maxDepth, h2 9999]
theorem neq_self (a : Addr) (w : World) : (binOp .neq 23 (.pointer (some a)) (.pointer (some a))).run Yba.prog w = .ok (.bool false) w := by
  have h := info46
  cases hj : Yba.prog.info? 46 with
  | none => rw [hj] at h; simp at h
  | some j =>
    have h2 : ∀ d : Nat, (Op.equalIn (d + 1) 23 (.pointer (some a)) (.pointer (some a))).run Yba.prog w = .ok true w := fun d => by
      simp [Op.equalIn, run_underlying Yba.underlying23, sizeOf, typeInfo, hj, run_sameAddr_same]
    simp only [binOp]
    simp [Op.equal, Op.maxDepth, h2 9999]
theorem bigInt_kept (n s : Int) (b : Nat) (w : World) :
    Calls Yba.prog 7 #[.agg #[.int .i64 n, .pointer (some ⟨b, 0, none⟩), .int .i64 s]] w fun e w' => e = .returned (.pointer (some ⟨b, 0, none⟩)) ∧ Below w.heap.size w w' := by
  go_enter Yba.func7, Yba.ntmps7
  go_wp2
  go_ret
  exact ⟨rfl, (Below.refl _ _).alloc (Nat.le_refl _) _⟩
set_option maxHeartbeats 800000 in
theorem Set_core (z b : Nat) (s : Bool) (a a' : Option Addr) (m c c' : Nat) (w w1 : World) (hne : ¬ z = b) (hz : w.heap[z]? = some (.cells #[.bool false, .slice none 0 0] 46 (0, 0))) (hb : w.heap[b]? = some (.cells #[.bool s, .slice a m c] 46 (0, 0)))
    (hz1 : w1.heap[z]? = some (.cells #[.bool false, .slice none 0 0] 46 (0, 0))) (hb1 : w1.heap[b]? = some (.cells #[.bool s, .slice a m c] 46 (0, 0)))
    (hL : ∀ k, Calls Yba.prog 30 #[.slice none 0 0, .slice a m c] (w.drewN k) fun e w' => e = .returned (.slice a' m c') ∧ w' = w1.drewN k) :
    Calls Yba.prog 16 #[.pointer (some ⟨z, 0, none⟩), .pointer (some ⟨b, 0, none⟩)] w fun e w' => e = .returned (.pointer (some ⟨z, 0, none⟩)) ∧
      ∃ k : Nat, w' = ((w1.setCell ⟨z, 1, none⟩ (.slice a' m c')).setCell ⟨z, 0, none⟩ (.bool s)).drewN k := by
  have L : Hid (∀ k, Calls Yba.prog 30 #[.slice none 0 0, .slice a m c] (w.drewN k) fun e w' => e = .returned (.slice a' m c') ∧ w' = w1.drewN k) := hL
  have hn := neq_other z 0 b 0 w hne hz hb
  have z0 : w.cell? ⟨z, 0, none⟩ = some (.bool false) := cell_of_block (o := 0) hz rfl
  have z1 : w.cell? ⟨z, 1, none⟩ = some (.slice none 0 0) := cell_of_block (o := 1) hz rfl
  have y0 : w.cell? ⟨b, 0, none⟩ = some (.bool s) := cell_of_block (o := 0) hb rfl
  have y1 : w.cell? ⟨b, 1, none⟩ = some (.slice a m c) := cell_of_block (o := 1) hb rfl
  have u0 : w1.cell? ⟨z, 0, none⟩ = some (.bool false) := cell_of_block (o := 0) hz1 rfl
  have u1 : w1.cell? ⟨z, 1, none⟩ = some (.slice none 0 0) := cell_of_block (o := 1) hz1 rfl
  have v0 : w1.cell? ⟨b, 0, none⟩ = some (.bool s) := cell_of_block (o := 0) hb1 rfl
  have f0 := free_of_block (o := 0) hz1
  have f1 := free_of_block (o := 1) hz1
  clear hL hb hz hb1 hz1
  go_enter Yba.func16, Yba.ntmps16
  go_wp2
  go_region_with (go_at_call 30; refine (L.out 1).mono ?_; rintro e w' ⟨rfl, rfl⟩)
  all_goals
    go_wp2
    go_ret
    simp only [drewN_setCell]
    exact ⟨rfl, _, rfl⟩
theorem Set_any (z b : Nat) (s : Bool) (zs : List Int) (w : World) (hlen : zs.length ≤ 2) (hne : ¬ z = b) (hz : w.heap[z]? = some (.cells #[.bool false, .slice none 0 0] 46 (0, 0))) (hb : IsInt w b s zs) :
    Calls Yba.prog 16 #[.pointer (some ⟨z, 0, none⟩), .pointer (some ⟨b, 0, none⟩)] w fun e w' => e = .returned (.pointer (some ⟨z, 0, none⟩)) ∧
      IsInt w' z s zs ∧ w.grownBy w' (some z) := by
  obtain ⟨a, c, e1, e2⟩ := hb
  have lz := heap_lt hz
  have lb := heap_lt e1
  rcases (show zs.length = 0 ∨ zs.length = 1 ∨ zs.length = 2 by omega) with h | h | h
  · rw [h] at e1
    refine (Set_core z b s a none 0 c 0 w w hne hz e1 hz e1 fun k => set_nil a c _).mono ?_
    rintro e w' ⟨rfl, k, rfl⟩
    refine ⟨rfl, ⟨none, 0, ?_, fun hh => by omega⟩, grown_drewN (grown_set' (grown_set _) _) k⟩
    rw [h]
    exact block_set (o := 0) (.bool s) (block_set (o := 1) (.slice none 0 0) hz)
  · rw [h] at e1
    obtain ⟨g, o, rfl, hc⟩ := e2 (by omega)
    have h0 := hc 0 (by omega)
    refine (Set_core z b s _ (some ⟨w.heap.size, 0, none⟩) 1 c 1 w (w.alloc (.cells #[.int .u64 (zs.getD 0 0)] 55)) hne hz e1 (by rw [heap_old lz]; exact hz) (by rw [heap_old lb]; exact e1) fun k => set_one (zs.getD 0 0) g o c (w.drewN k) h0).mono ?_
    rintro e w' ⟨rfl, k, rfl⟩
    refine ⟨rfl, ⟨some ⟨w.heap.size, 0, none⟩, 1, ?_, fun _ => ⟨_, _, rfl, fun i hi => ?_⟩⟩, grown_drewN (grown_set' (grown_set' (grown_alloc' (grown_refl _ _) _) _) _) k⟩
    · rw [h]
      exact block_set (o := 0) (.bool s) (block_set (o := 1) (.slice (some ⟨w.heap.size, 0, none⟩) 1 1) ((heap_old lz).trans hz))
    · obtain rfl : i = 0 := by omega
      have hg : ((((w.alloc (.cells #[.int .u64 (zs.getD 0 0)] 55)).setCell ⟨z, 1, none⟩ (.slice (some ⟨w.heap.size, 0, none⟩) 1 1)).setCell ⟨z, 0, none⟩ (.bool s)).drewN k).heap[w.heap.size]? = some (.cells #[.int .u64 (zs.getD 0 0)] 55 (0, 0)) := by
        show (((w.alloc _).setCell _ _).setCell _ _).heap[w.heap.size]? = _
        rw [Below.heap_setCell _ _ _ _ (by show _ ≠ z; omega), Below.heap_setCell _ _ _ _ (by show _ ≠ z; omega)]
        exact heap_new rfl
      exact cell_of_block (o := 0) hg rfl
  · rw [h] at e1
    obtain ⟨g, o, rfl, hc⟩ := e2 (by omega)
    have h0 := hc 0 (by omega)
    have h1 := hc 1 (by omega)
    refine (Set_core z b s _ (some ⟨w.heap.size, 0, none⟩) 2 c 6 w (w.alloc (.cells #[.int .u64 (zs.getD 0 0), .int .u64 (zs.getD 1 0), .int .u64 0, .int .u64 0, .int .u64 0, .int .u64 0] 55)) hne hz e1 (by rw [heap_old lz]; exact hz) (by rw [heap_old lb]; exact e1) fun k => set_two (zs.getD 0 0) (zs.getD 1 0) g o c (w.drewN k) h0 h1).mono ?_
    rintro e w' ⟨rfl, k, rfl⟩
    have hg : ((((w.alloc (.cells #[.int .u64 (zs.getD 0 0), .int .u64 (zs.getD 1 0), .int .u64 0, .int .u64 0, .int .u64 0, .int .u64 0] 55)).setCell ⟨z, 1, none⟩ (.slice (some ⟨w.heap.size, 0, none⟩) 2 6)).setCell ⟨z, 0, none⟩ (.bool s)).drewN k).heap[w.heap.size]? = some (.cells #[.int .u64 (zs.getD 0 0), .int .u64 (zs.getD 1 0), .int .u64 0, .int .u64 0, .int .u64 0, .int .u64 0] 55 (0, 0)) := by
      show (((w.alloc _).setCell _ _).setCell _ _).heap[w.heap.size]? = _
      rw [Below.heap_setCell _ _ _ _ (by show _ ≠ z; omega), Below.heap_setCell _ _ _ _ (by show _ ≠ z; omega)]
      exact heap_new rfl
    refine ⟨rfl, ⟨some ⟨w.heap.size, 0, none⟩, 6, ?_, fun _ => ⟨_, _, rfl, fun i hi => ?_⟩⟩, grown_drewN (grown_set' (grown_set' (grown_alloc' (grown_refl _ _) _) _) _) k⟩
    · rw [h]
      exact block_set (o := 0) (.bool s) (block_set (o := 1) (.slice (some ⟨w.heap.size, 0, none⟩) 2 6) ((heap_old lz).trans hz))
    · rcases (show i = 0 ∨ i = 1 by omega) with rfl | rfl
      · exact cell_of_block (o := 0) hg rfl
      · exact cell_of_block (o := 1) hg rfl
end Go.Proofs.Ybulkcfek.big
