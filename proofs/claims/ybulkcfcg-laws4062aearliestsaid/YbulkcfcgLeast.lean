import Derived.Test.YbulkcfcgFirst
namespace Go.Proofs.Ybulkcfcg.pm
open Go.ChangeShapes Go.WideShapes Go.ChangeAt Go.RowKit
open Go.ChangeMaps (setBlock)
open Go.MuLone
set_option linter.unusedVariables false
set_option maxHeartbeats 800000 in
theorem firstMissed_nil (B : Nat) (c : Array Value) (w : World) (hB : w.heap[B]? = some (.cells c 52 (0, 0))) (g17 : c[17]? = some (.map none)) (g33 : c[33]? = some (.int .i32 0)) :
    Calls Yba.prog 4 #[.pointer (some ⟨B, 0, none⟩)] w fun e w' => e = .returned (.int .u64 0) ∧ Below w.heap.size w w' := by
  have h17 : w.cell? ⟨B, 17, none⟩ = some (.map none) := by simp [World.cell?, hB, g17]
  have h33 : w.cell? ⟨B, 33, none⟩ = some (.int .i32 0) := by simp [World.cell?, hB, g33]
  have f33 : w.frozen? ⟨B, 33, none⟩ = false := by simp [World.frozen?, hB]
  have hB_lt : B < w.heap.size := by
    rcases Nat.lt_or_ge B w.heap.size with h | h
    · exact h
    · rw [Array.getElem?_eq_none h] at hB; cases hB
  have hs0 : (w.setCell ⟨B, 33, none⟩ (.int .i32 1)).heap.size = w.heap.size := by simp [World.setCell]
  have hrg : (Instr.range 37 (.map none)).run Yba.prog (w.setCell ⟨B, 33, none⟩ (.int .i32 1)) = .ok (.pointer (some ⟨w.heap.size, 0, none⟩)) ((w.setCell ⟨B, 33, none⟩ (.int .i32 1)).alloc (.mapIter none 0 #[] 0)) := by
    have := run_range_nilMap (P := Yba.prog) (w.setCell ⟨B, 33, none⟩ (.int .i32 1)) 37 24 27 Yba.underlying37
    rw [hs0] at this
    exact this
  obtain ⟨W1, hW1⟩ : ∃ W1, W1 = (w.setCell ⟨B, 33, none⟩ (.int .i32 1)).alloc (.mapIter none 0 #[] 0) := ⟨_, rfl⟩
  have bel : Below w.heap.size (w.setCell ⟨B, 33, none⟩ (.int .i32 1)) W1 := by rw [hW1]; exact (Below.refl _ _).alloc (by rw [hs0]; exact Nat.le_refl _) _
  have hnx : (Instr.next (.pointer (some ⟨w.heap.size, 0, none⟩)) false 0).run Yba.prog W1 = .ok (.tuple #[.bool false]) W1 := by
    have hi : W1.heap[w.heap.size]? = some (.mapIter none 0 #[] 0) := by
      rw [hW1]
      show ((w.setCell ⟨B, 33, none⟩ (.int .i32 1)).heap.push _)[w.heap.size]? = _
      rw [Array.getElem?_push, if_pos hs0.symm]
    simp only [Instr.next, getObj, Sem.run_bind, Sem.run, hi, Result.andThen]
    rfl
  have HW : Hid ((W1.cell? ⟨B, 33, none⟩ = some (.int .i32 1) ∧ W1.frozen? ⟨B, 33, none⟩ = false) ∧ Below w.heap.size w (W1.setCell ⟨B, 33, none⟩ (.int .i32 0))) := by
    refine ⟨⟨?_, ?_⟩, restore hB g33 bel⟩
    · rw [bel.cell (p := ⟨B, 33, none⟩) hB_lt]
      exact World.cell?_setCell_same w ⟨B, 33, none⟩ _ h33
    · rw [bel.frozen (p := ⟨B, 33, none⟩) hB_lt, World.frozen?_setCell]
      exact f33
  clear hB g17 g33 hs0 bel
  go_enter_defers Yba.func4, Yba.ntmps4
  go_wp2_with (go_at_call 6; refine (lock_free Yba.muLib ⟨B, 33, none⟩ _ h33 f33).mono ?_; rintro e w' ⟨rfl, rfl⟩)
  rw [← hW1]
  clear hW1 hrg h17 h33 f33
  refine wp_loop_rounds 1 ?_
  rw [rounds_succ]
  go_wp2
  refine leaves_cons (f := 7) (args := #[.pointer (some ⟨B, 33, none⟩)]) (by simp) (by simp [go_sem]) ?_
  refine (unlock_deferred Yba.muLib ⟨B, 33, none⟩ .returning _ HW.out.1.1 HW.out.1.2).mono ?_
  rintro e u' w'' ⟨rfl, rfl, rfl⟩
  exact ⟨_, results_tmp rfl _ _ _, rfl, HW.out.2⟩
set_option maxHeartbeats 800000 in
theorem least_any (a0 : Option Addr) (n c : Nat) (z : Nat → Int) (w : World) (hn : n ≤ 9223372036854775807) (hz : ∀ i, i < n → ∃ b o, a0 = some ⟨b, o, none⟩ ∧ w.cell? ⟨b, o + i, none⟩ = some (.int .u64 (z i)) ∧ 0 ≤ z i) :
    Calls Yba.prog 5 #[.slice a0 n c] w fun e w' => ∃ v, e = .returned (.int .u64 v) ∧ Least ((List.range n).map z) v ∧ w' = w := by
  have HZ : Hid (∀ i, i < n → ∃ b o, a0 = some ⟨b, o, none⟩ ∧ w.cell? ⟨b, o + i, none⟩ = some (.int .u64 (z i)) ∧ 0 ≤ z i) := hz
  clear hz
  go_enter Yba.func5, Yba.ntmps5
  go_wp2
  go_loop [3, 4, 5] (fun fd bs i => ∃ (k : Nat) (v : Int), k ≤ n ∧ i = .int .i64 k ∧ bs = .int .u64 v ∧ fd = .bool (!(v == 0)) ∧ Least ((List.range k).map z) v) (fun _ _ i => n - (intOf i).toNat)
  case atStart => exact ⟨0, 0, by omega, rfl, rfl, rfl, Least.nil⟩
  case round =>
    obtain ⟨k, v, hk, rfl, rfl, rfl, hL⟩ := hrel
    have HL : Hid (Least ((List.range k).map z) v) := hL
    clear hL
    by_cases hlt : k < n
    · obtain ⟨b, o, rfl, hc, h0⟩ := HZ.out k hlt
      have HM : Hid ((List.range (k + 1)).map z = (List.range k).map z ++ [z k]) := by
        show _ = _
        simp [List.range_succ]
      obtain ⟨zk, hzk⟩ : ∃ zk, zk = z k := ⟨_, rfl⟩
      rw [← hzk] at hc h0 HM
      clear hzk HZ
      by_cases hz0 : zk = 0
      · subst hz0
        go_wp2
        all_goals
          go_round
          case rel => exact ⟨k + 1, v, by omega, by go_num, rfl, rfl, by rw [HM.out]; exact HL.out.skip (.inl rfl)⟩
          case measure => simp [intOf]; omega
      · have hz1 : (zk == 0) = false := by simpa using hz0
        by_cases hv : v = 0
        · subst hv
          go_wp2
          go_round
          case rel => exact ⟨k + 1, zk, by omega, by go_num, rfl, by simp [hz0], by rw [HM.out]; exact HL.out.take hz0 (.inl rfl)⟩
          case measure => simp [intOf]; omega
        · have hv1 : (v == 0) = false := by simpa using hv
          by_cases hzv : zk < v
          · go_wp2
            go_round
            case rel => exact ⟨k + 1, zk, by omega, by go_num, rfl, by simp [hz0], by rw [HM.out]; exact HL.out.take hz0 (.inr hzv)⟩
            case measure => simp [intOf]; omega
          · go_wp2
            go_round
            case rel => exact ⟨k + 1, v, by omega, by go_num, rfl, by simp, by rw [HM.out]; exact HL.out.skip (.inr ⟨hv, by omega⟩)⟩
            case measure => simp [intOf]; omega
    · obtain rfl : k = n := by omega
      go_wp2
      go_ret
      exact ⟨v, rfl, HL.out, rfl⟩
end Go.Proofs.Ybulkcfcg.pm
