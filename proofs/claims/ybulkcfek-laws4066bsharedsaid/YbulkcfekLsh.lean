import Derived.Test.YbulkcfekNat
import Derived.Laws.CopyRow
import Derived.Lib.SliceRun
import Derived.Deep.WholeRow
namespace Go.Proofs.Ybulkcfek.big
open Go.ChangeShapes Go.WideShapes Go.ChangeAt Go.RowKit
set_option linter.unusedVariables false
theorem cells3 {w : World} {g o : Nat} {a b c : Int} (h0 : w.cell? ⟨g, o, none⟩ = some (.int .u64 a)) (h1 : w.cell? ⟨g, o + 1, none⟩ = some (.int .u64 b)) (h2 : w.cell? ⟨g, o + 2, none⟩ = some (.int .u64 c)) :
    ∀ i, i < [a, b, c].length → w.cell? ⟨g, o + i, none⟩ = some (.int .u64 ([a, b, c].getD i 0)) := by
  intro i hi
  simp only [List.length_cons, List.length_nil] at hi
  rcases (show i = 0 ∨ i = 1 ∨ i = 2 by omega) with rfl | rfl | rfl
  · exact h0
  · exact h1
  · exact h2
theorem cells2 {w : World} {g o : Nat} {a b : Int} (h0 : w.cell? ⟨g, o, none⟩ = some (.int .u64 a)) (h1 : w.cell? ⟨g, o + 1, none⟩ = some (.int .u64 b)) :
    ∀ i, i < [a, b].length → w.cell? ⟨g, o + i, none⟩ = some (.int .u64 ([a, b].getD i 0)) := by
  intro i hi
  simp only [List.length_cons, List.length_nil] at hi
  rcases (show i = 0 ∨ i = 1 by omega) with rfl | rfl
  · exact h0
  · exact h1
/-- norm of [x, h, 0], h not 0. -/
theorem norm_two (h : Int) (g o c : Nat) (w : World) {x : Int} (h0 : h ≠ 0) (hm : 3 ≤ c ∧ c ≤ 9223372036854775807) (c0 : w.cell? ⟨g, o, none⟩ = some (.int .u64 x)) (c1 : w.cell? ⟨g, o + 1, none⟩ = some (.int .u64 h)) (c2 : w.cell? ⟨g, o + 2, none⟩ = some (.int .u64 0)) :
    Calls Yba.prog 36 #[.slice (some ⟨g, o, none⟩) 3 c] w fun e w' => e = .returned (.slice (some ⟨g, o, none⟩) 2 c) ∧ w' = w := by
  refine (norm_any [x, h, 0] g o c w (by simpa using hm.1) hm.2 (cells3 c0 c1 c2)).mono ?_
  rintro e w' ⟨m, h1, h2, h3, rfl, rfl⟩
  simp only [List.length_cons, List.length_nil] at h1 h2
  obtain rfl : m = 2 := by
    rcases (show m = 0 ∨ m = 1 ∨ m = 2 ∨ m = 3 by omega) with rfl | rfl | rfl | rfl
    · exact absurd (h2 1 (by omega) (by omega)) h0
    · exact absurd (h2 1 (by omega) (by omega)) h0
    · rfl
    · exact absurd rfl (h3 (by omega))
  exact ⟨rfl, rfl⟩
theorem setWord_0 (w : World) :
    Calls Yba.prog 43 #[.slice none 0 0, .int .u64 0] w fun e w' => e = .returned (.slice none 0 0) ∧ w' = w := by
  go_enter Yba.func43, Yba.ntmps43
  go_wp2
  go_ret
  exact ⟨rfl, rfl⟩
theorem setWord_1 (x : Int) (h : x ≠ 0) (w : World) :
    Calls Yba.prog 43 #[.slice none 0 0, .int .u64 x] w fun e w' => e = .returned (.slice (some ⟨w.heap.size, 0, none⟩) 1 1) ∧ w' = w.alloc (.cells #[.int .u64 x] 55) := by
  have hz : (x == 0) = false := by simpa using h
  go_enter Yba.func43, Yba.ntmps43
  go_wp2_with (go_at_call 34; refine (make_1 _).mono ?_; rintro e w' ⟨rfl, rfl⟩)
  go_ret
  exact ⟨rfl, rfl⟩
theorem lsh_nil (a : Option Addr) (c : Nat) (w : World) :
    Calls Yba.prog 26 #[.slice none 0 0, .slice a 0 c, .int .u64 64] w fun e w' => e = .returned (.slice none 0 0) ∧ w' = w := by
  go_enter Yba.func26, Yba.ntmps26
  go_wp2
  go_ret
  exact ⟨rfl, rfl⟩
theorem size55 : (Yba.prog.info? 55).map (·.size) = some 1 := by kernel_rfl
theorem zero55 (w : World) : (zeroValue 55).run Yba.prog w = .ok (.int .u64 0) w := by kernel_rfl
theorem copy_lsh (h : Int) (g o c : Nat) (w : World) (hx : w.cell? ⟨g, o, none⟩ = some (.int .u64 h)) :
    (Builtin.copy_ #[44, 44] 3 #[.slice (some ⟨w.heap.size, 1, none⟩) 1 6, .slice (some ⟨g, o, none⟩) 1 c]).run Yba.prog (w.alloc (.cells #[.int .u64 0, .int .u64 0, .int .u64 0, .int .u64 0, .int .u64 0, .int .u64 0, .int .u64 0] 55)) =
      .ok (.int .i64 1) (w.alloc (.cells #[.int .u64 0, .int .u64 h, .int .u64 0, .int .u64 0, .int .u64 0, .int .u64 0, .int .u64 0] 55)) := by
  refine (run_copy_row (P := Yba.prog) _ 44 44 3 55 w.heap.size 1 1 6 ⟨g, o, none⟩ 1 c _ 55 [.int .u64 h] Yba.underlying44 size55 (heap_new rfl) rfl ?_ (by simp) (by simp [Value.oneCell'])).trans ?_
  · intro j v hj
    match j, hj with
    | 0, hj =>
      simp at hj
      subst hj
      exact Lib.cell?_alloc_some _ hx
  · rw [World.setRow_alloc_new]
    rfl
theorem clear_lsh (h : Int) (w : World) (ty : TypeId) :
    (Builtin.clear_ #[44] ty #[.slice (some ⟨w.heap.size, 0, none⟩) 1 7]).run Yba.prog (w.alloc (.cells #[.int .u64 0, .int .u64 h, .int .u64 0, .int .u64 0, .int .u64 0, .int .u64 0, .int .u64 0] 55)) =
      .ok (.tuple #[]) (w.alloc (.cells #[.int .u64 0, .int .u64 h, .int .u64 0, .int .u64 0, .int .u64 0, .int .u64 0, .int .u64 0] 55)) := by
  refine (Lib.run_clear_slice (P := Yba.prog) _ 44 55 ty (.int .u64 0) Yba.underlying44 zero55 rfl rfl w.heap.size 0 1 7 (by omega) ?_ ?_).trans ?_
  · intro j hj
    obtain rfl : j = 0 := by omega
    simp
  · intro j hj
    obtain rfl : j = 0 := by omega
    simp
  · simp only [List.replicate, World.setCells]
    rw [World.setCell_alloc_at _ _ _ _ _ rfl]
    rfl
set_option maxHeartbeats 400000 in
theorem lsh_one (h : Int) (g o c : Nat) (w : World) (h0 : h ≠ 0) (hx : w.cell? ⟨g, o, none⟩ = some (.int .u64 h)) :
    Calls Yba.prog 26 #[.slice none 0 0, .slice (some ⟨g, o, none⟩) 1 c, .int .u64 64] w fun e w' => e = .returned (.slice (some ⟨w.heap.size, 0, none⟩) 2 7) ∧ w' = w.alloc (.cells #[.int .u64 0, .int .u64 h, .int .u64 0, .int .u64 0, .int .u64 0, .int .u64 0, .int .u64 0] 55) := by
  have hcp := copy_lsh h g o c w hx
  have hcl := clear_lsh h w
  go_enter Yba.func26, Yba.ntmps26
  go_wp2_with (first | (go_at_call 34; refine (make_3 _).mono ?_; rintro e w' ⟨rfl, rfl⟩) | (go_at_call 36; refine (norm_two (x := 0) h _ _ _ _ h0 (by omega) (by simp) (by simp) (by simp)).mono ?_; rintro e w' ⟨rfl, rfl⟩))
  go_ret
  exact ⟨rfl, rfl⟩
end Go.Proofs.Ybulkcfek.big
