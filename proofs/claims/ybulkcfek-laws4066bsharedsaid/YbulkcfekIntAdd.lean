import Derived.Test.YbulkcfekIntOps
namespace Go.Proofs.Ybulkcfek.big
open Go.ChangeShapes Go.WideShapes Go.ChangeAt Go.RowKit
set_option linter.unusedVariables false
theorem natcmp_gt (a b : Option Addr) (m n c d : Nat) (w : World) (h : n < m) (hm : m ≤ 9223372036854775807) :
    Calls Yba.prog 25 #[.slice a m c, .slice b n d] w fun e w' => e = .returned (.int .i64 1) ∧ w' = w := by
  have hne : ((m : Int) != n) = true := by simp; omega
  go_enter Yba.func25, Yba.ntmps25
  go_wp2
  go_ret
  exact ⟨rfl, rfl⟩
theorem setUint64_0 (w : World) :
    Calls Yba.prog 29 #[.slice none 0 0, .int .u64 0] w fun e w' => e = .returned (.slice none 0 0) ∧ w' = w := by
  go_enter Yba.func29, Yba.ntmps29
  go_wp2_with (go_at_call 43; refine (setWord_0 _).mono ?_; rintro e w' ⟨rfl, rfl⟩)
  go_ret
  exact ⟨rfl, rfl⟩
theorem setUint64_1 (x : Int) (h : x ≠ 0) (w : World) :
    Calls Yba.prog 29 #[.slice none 0 0, .int .u64 x] w fun e w' => e = .returned (.slice (some ⟨w.heap.size, 0, none⟩) 1 1) ∧ w' = w.alloc (.cells #[.int .u64 x] 55) := by
  have he : (x == x) = true := by simp
  go_enter Yba.func29, Yba.ntmps29
  go_wp2_with (go_at_call 43; refine (setWord_1 x h _).mono ?_; rintro e w' ⟨rfl, rfl⟩)
  go_ret
  exact ⟨rfl, rfl⟩
set_option maxHeartbeats 800000 in
theorem SetUint64_0 (bz : Nat) (w : World) (hz : w.heap[bz]? = some (.cells #[.bool false, .slice none 0 0] 46 (0, 0))) :
    Calls Yba.prog 15 #[.pointer (some ⟨bz, 0, none⟩), .int .u64 0] w fun e w' => e = .returned (.pointer (some ⟨bz, 0, none⟩)) ∧
      w'.heap[bz]? = some (.cells #[.bool false, .slice none 0 0] 46 (0, 0)) ∧ w.grownBy w' (some bz) := by
  have z0 : w.cell? ⟨bz, 0, none⟩ = some (.bool false) := cell_of_block (o := 0) hz rfl
  have z1 : w.cell? ⟨bz, 1, none⟩ = some (.slice none 0 0) := cell_of_block (o := 1) hz rfl
  have f0 := free_of_block (o := 0) hz
  have f1 := free_of_block (o := 1) hz
  have HB : Hid (((w.setCell ⟨bz, 1, none⟩ (.slice none 0 0)).setCell ⟨bz, 0, none⟩ (.bool false)).heap[bz]? = some (.cells #[.bool false, .slice none 0 0] 46 (0, 0))) := block_set (o := 0) (.bool false) (block_set (o := 1) (.slice none 0 0) hz)
  clear hz
  go_enter Yba.func15, Yba.ntmps15
  go_wp2_with (go_at_call 29; refine (setUint64_0 _).mono ?_; rintro e w' ⟨rfl, hw⟩; obtain rfl := hw.symm)
  go_ret
  exact ⟨rfl, HB.out, grown_set' (grown_set _) _⟩
set_option maxHeartbeats 800000 in
theorem SetUint64_1 (x : Int) (h : x ≠ 0) (bz : Nat) (w : World) (hz : w.heap[bz]? = some (.cells #[.bool false, .slice none 0 0] 46 (0, 0))) :
    Calls Yba.prog 15 #[.pointer (some ⟨bz, 0, none⟩), .int .u64 x] w fun e w' => e = .returned (.pointer (some ⟨bz, 0, none⟩)) ∧
      w'.heap[bz]? = some (.cells #[.bool false, .slice (some ⟨w.heap.size, 0, none⟩) 1 1] 46 (0, 0)) ∧ w'.heap[w.heap.size]? = some (.cells #[.int .u64 x] 55 (0, 0)) ∧ w.grownBy w' (some bz) := by
  have lz := heap_lt hz
  obtain ⟨w1, hw1⟩ : ∃ w1, w1 = w.alloc (.cells #[.int .u64 x] 55) := ⟨_, rfl⟩
  have hz1 : w1.heap[bz]? = some (.cells #[.bool false, .slice none 0 0] 46 (0, 0)) := by rw [hw1, heap_old lz]; exact hz
  have hg1 : w1.heap[w.heap.size]? = some (.cells #[.int .u64 x] 55 (0, 0)) := by rw [hw1]; exact heap_new rfl
  have G1 : w.grownBy w1 (some bz) := by rw [hw1]; exact grown_alloc' (grown_refl _ _) _
  have L : Hid (Calls Yba.prog 29 #[.slice none 0 0, .int .u64 x] w fun e w' => e = .returned (.slice (some ⟨w.heap.size, 0, none⟩) 1 1) ∧ w' = w1) := by
    rw [hw1]
    exact setUint64_1 x h w
  have a1 : w.cell? ⟨bz, 1, none⟩ = some (.slice none 0 0) := cell_of_block (o := 1) hz rfl
  have z0 : w1.cell? ⟨bz, 0, none⟩ = some (.bool false) := cell_of_block (o := 0) hz1 rfl
  have z1 : w1.cell? ⟨bz, 1, none⟩ = some (.slice none 0 0) := cell_of_block (o := 1) hz1 rfl
  have f0 := free_of_block (o := 0) hz1
  have f1 := free_of_block (o := 1) hz1
  have HB : Hid (((w1.setCell ⟨bz, 1, none⟩ (.slice (some ⟨w.heap.size, 0, none⟩) 1 1)).setCell ⟨bz, 0, none⟩ (.bool false)).heap[bz]? = some (.cells #[.bool false, .slice (some ⟨w.heap.size, 0, none⟩) 1 1] 46 (0, 0))) := block_set (o := 0) (.bool false) (block_set (o := 1) (.slice (some ⟨w.heap.size, 0, none⟩) 1 1) hz1)
  have HG : Hid (((w1.setCell ⟨bz, 1, none⟩ (.slice (some ⟨w.heap.size, 0, none⟩) 1 1)).setCell ⟨bz, 0, none⟩ (.bool false)).heap[w.heap.size]? = some (.cells #[.int .u64 x] 55 (0, 0))) := by
    show _ = _
    rw [Below.heap_setCell _ _ _ _ (by show _ ≠ bz; omega), Below.heap_setCell _ _ _ _ (by show _ ≠ bz; omega)]
    exact hg1
  have HH : Hid (w.grownBy ((w1.setCell ⟨bz, 1, none⟩ (.slice (some ⟨w.heap.size, 0, none⟩) 1 1)).setCell ⟨bz, 0, none⟩ (.bool false)) (some bz)) := grown_set' (grown_set' G1 _) _
  clear hz hz1 hg1 G1 hw1
  go_enter Yba.func15, Yba.ntmps15
  go_wp2_with (go_at_call 29; refine L.out.mono ?_; rintro e w' ⟨rfl, rfl⟩)
  go_ret
  exact ⟨rfl, HB.out, HG.out, HH.out⟩
set_option maxHeartbeats 1600000 in
/-- Add where both have one sign, the first operand in place: out of what nat.add does. -/
theorem Add_same (ng : Bool) (b y : Nat) (a a2 a' : Option Addr) (n c n2 c2 m' c' : Nat) (w w1 : World) (hm : m' ≤ 9223372036854775807)
    (hb : w.heap[b]? = some (.cells #[.bool ng, .slice a n c] 46 (0, 0))) (hy : w.heap[y]? = some (.cells #[.bool ng, .slice a2 n2 c2] 46 (0, 0)))
    (hb1 : w1.heap[b]? = some (.cells #[.bool ng, .slice a n c] 46 (0, 0)))
    (hL : ∀ k, Calls Yba.prog 27 #[.slice a n c, .slice a n c, .slice a2 n2 c2] (w.drewN k) fun e w' => e = .returned (.slice a' m' c') ∧ ∃ k, w' = w1.drewN k) :
    Calls Yba.prog 14 #[.pointer (some ⟨b, 0, none⟩), .pointer (some ⟨b, 0, none⟩), .pointer (some ⟨y, 0, none⟩)] w fun e w' => e = .returned (.pointer (some ⟨b, 0, none⟩)) ∧
      ∃ (s : Bool) (k : Nat), w' = ((w1.setCell ⟨b, 1, none⟩ (.slice a' m' c')).setCell ⟨b, 0, none⟩ (.bool s)).drewN k := by
  have L : Hid (∀ k, Calls Yba.prog 27 #[.slice a n c, .slice a n c, .slice a2 n2 c2] (w.drewN k) fun e w' => e = .returned (.slice a' m' c') ∧ ∃ k, w' = w1.drewN k) := hL
  have z0 : w.cell? ⟨b, 0, none⟩ = some (.bool ng) := cell_of_block (o := 0) hb rfl
  have z1 : w.cell? ⟨b, 1, none⟩ = some (.slice a n c) := cell_of_block (o := 1) hb rfl
  have y0 : w.cell? ⟨y, 0, none⟩ = some (.bool ng) := cell_of_block (o := 0) hy rfl
  have y1 : w.cell? ⟨y, 1, none⟩ = some (.slice a2 n2 c2) := cell_of_block (o := 1) hy rfl
  have u0 : w1.cell? ⟨b, 0, none⟩ = some (.bool ng) := cell_of_block (o := 0) hb1 rfl
  have u1 : w1.cell? ⟨b, 1, none⟩ = some (.slice a n c) := cell_of_block (o := 1) hb1 rfl
  have f0 := free_of_block (o := 0) hb1
  have f1 := free_of_block (o := 1) hb1
  clear hL hb hy hb1
  have heq : (ng == ng) = true := by simp
  go_enter Yba.func14, Yba.ntmps14
  go_wp2
  go_quiet (fail)
  go_wp2
  go_region_with (go_at_call 27; refine (L.out _).mono ?_; rintro e w' ⟨rfl, k, rfl⟩)
  all_goals
    by_cases hm0 : 0 < m'
    · have hd : decide ((0 : Int) < (m' : Int)) = true := by simpa using hm0
      go_wp2
      go_ret
      simp only [drewN_setCell]
      exact ⟨rfl, _, _, rfl⟩
    · obtain rfl : m' = 0 := by omega
      go_wp2
      go_ret
      simp only [drewN_setCell]
      exact ⟨rfl, _, _, rfl⟩
set_option maxHeartbeats 1600000 in
/-- Add where the signs differ and the first operand has more words: out of what nat.sub does. -/
theorem Add_diff (b y : Nat) (a a2 a' : Option Addr) (n c n2 c2 m' c' : Nat) (w w1 : World) (hm : m' ≤ 9223372036854775807) (hn : n2 < n) (hn' : n ≤ 9223372036854775807)
    (hb : w.heap[b]? = some (.cells #[.bool true, .slice a n c] 46 (0, 0))) (hy : w.heap[y]? = some (.cells #[.bool false, .slice a2 n2 c2] 46 (0, 0)))
    (hb1 : w1.heap[b]? = some (.cells #[.bool true, .slice a n c] 46 (0, 0)))
    (hL : ∀ k, Calls Yba.prog 28 #[.slice a n c, .slice a n c, .slice a2 n2 c2] (w.drewN k) fun e w' => e = .returned (.slice a' m' c') ∧ ∃ k, w' = w1.drewN k) :
    Calls Yba.prog 14 #[.pointer (some ⟨b, 0, none⟩), .pointer (some ⟨b, 0, none⟩), .pointer (some ⟨y, 0, none⟩)] w fun e w' => e = .returned (.pointer (some ⟨b, 0, none⟩)) ∧
      ∃ (s : Bool) (k : Nat), w' = ((w1.setCell ⟨b, 1, none⟩ (.slice a' m' c')).setCell ⟨b, 0, none⟩ (.bool s)).drewN k := by
  have L : Hid (∀ k, Calls Yba.prog 28 #[.slice a n c, .slice a n c, .slice a2 n2 c2] (w.drewN k) fun e w' => e = .returned (.slice a' m' c') ∧ ∃ k, w' = w1.drewN k) := hL
  have z0 : w.cell? ⟨b, 0, none⟩ = some (.bool true) := cell_of_block (o := 0) hb rfl
  have z1 : w.cell? ⟨b, 1, none⟩ = some (.slice a n c) := cell_of_block (o := 1) hb rfl
  have y0 : w.cell? ⟨y, 0, none⟩ = some (.bool false) := cell_of_block (o := 0) hy rfl
  have y1 : w.cell? ⟨y, 1, none⟩ = some (.slice a2 n2 c2) := cell_of_block (o := 1) hy rfl
  have u0 : w1.cell? ⟨b, 0, none⟩ = some (.bool true) := cell_of_block (o := 0) hb1 rfl
  have u1 : w1.cell? ⟨b, 1, none⟩ = some (.slice a n c) := cell_of_block (o := 1) hb1 rfl
  have f0 := free_of_block (o := 0) hb1
  have f1 := free_of_block (o := 1) hb1
  clear hL hb hy hb1
  have N : Hid (∀ W, Calls Yba.prog 25 #[.slice a n c, .slice a2 n2 c2] W fun e w' => e = .returned (.int .i64 1) ∧ w' = W) := fun W => natcmp_gt _ _ _ _ _ _ W hn hn'
  go_enter Yba.func14, Yba.ntmps14
  go_wp2
  go_quiet (fail)
  go_wp2
  go_quiet (exact quiet_at ((N.out _).mono fun _ _ h => ⟨h.1, 0, h.2⟩))
  go_wp2
  go_region_with (go_at_call 28; refine (L.out _).mono ?_; rintro e w' ⟨rfl, k, rfl⟩)
  all_goals
    by_cases hm0 : 0 < m'
    · have hd : decide ((0 : Int) < (m' : Int)) = true := by simpa using hm0
      go_wp2
      go_ret
      simp only [drewN_setCell]
      exact ⟨rfl, _, _, rfl⟩
    · obtain rfl : m' = 0 := by omega
      go_wp2
      go_ret
      simp only [drewN_setCell]
      exact ⟨rfl, _, _, rfl⟩
end Go.Proofs.Ybulkcfek.big
