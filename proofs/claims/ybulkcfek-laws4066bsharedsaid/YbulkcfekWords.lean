import Derived.Test.YbulkcfekLsh
namespace Go.Proofs.Ybulkcfek.big
open Go.ChangeShapes Go.WideShapes Go.ChangeAt Go.RowKit
set_option linter.unusedVariables false
theorem addVV_enters (args : Array Value) (w : World) : (callFunc 37 args).run Yba.prog w = .ok (.enter 17 args) w :=
  run_callFunc_twin (twin := Yba.f17.name) Yba.func37 (by kernel_rfl) (by kernel_rfl) (by kernel_rfl) (by kernel_rfl) Yba.func17 (by kernel_rfl) (by kernel_rfl) (by kernel_rfl) args w
theorem subVV_enters (args : Array Value) (w : World) : (callFunc 40 args).run Yba.prog w = .ok (.enter 18 args) w :=
  run_callFunc_twin (twin := Yba.f18.name) Yba.func40 (by kernel_rfl) (by kernel_rfl) (by kernel_rfl) (by kernel_rfl) Yba.func18 (by kernel_rfl) (by kernel_rfl) (by kernel_rfl) args w
set_option maxHeartbeats 800000 in
/-- addVV over one word, the first operand in place. -/
theorem addVV_one (x y : Int) (g o c1 c2 c3 h p : Nat) (w : World) (hx0 : 0 ≤ x) (hx1 : x ≤ 18446744073709551615) (hy0 : 0 ≤ y) (hy1 : y ≤ 18446744073709551615)
    (hx : w.cell? ⟨g, o, none⟩ = some (.int .u64 x)) (hf : w.frozen? ⟨g, o, none⟩ = false) (hy : w.cell? ⟨h, p, none⟩ = some (.int .u64 y)) :
    Calls Yba.prog 17 #[.slice (some ⟨g, o, none⟩) 1 c1, .slice (some ⟨g, o, none⟩) 1 c2, .slice (some ⟨h, p, none⟩) 1 c3] w fun e w' =>
      e = .returned (.int .u64 ((x + y) / 18446744073709551616)) ∧ ∃ k, w' = (w.setCell ⟨g, o, none⟩ (.int .u64 ((x + y) % 18446744073709551616))).drewN k := by
  go_enter Yba.func17, Yba.ntmps17
  go_wp2
  refine wp_loop_rounds 2 ?_
  rw [rounds_succ]
  go_wp2
  go_quiet (exact Calls.quiet_of_same (add_any _ _ _ hx0 hx1 hy0 hy1 (by omega) (by omega) _))
  go_wp2
  rw [rounds_succ]
  go_wp2
  go_ret
  exact ⟨rfl, nq, rfl⟩
set_option maxHeartbeats 800000 in
/-- subVV over one word, the first operand in place. -/
theorem subVV_one (x y : Int) (g o c1 c2 c3 h p : Nat) (w : World) (hx0 : 0 ≤ x) (hx1 : x ≤ 18446744073709551615) (hy0 : 0 ≤ y) (hy1 : y ≤ 18446744073709551615)
    (hx : w.cell? ⟨g, o, none⟩ = some (.int .u64 x)) (hf : w.frozen? ⟨g, o, none⟩ = false) (hy : w.cell? ⟨h, p, none⟩ = some (.int .u64 y)) :
    Calls Yba.prog 18 #[.slice (some ⟨g, o, none⟩) 1 c1, .slice (some ⟨g, o, none⟩) 1 c2, .slice (some ⟨h, p, none⟩) 1 c3] w fun e w' =>
      e = .returned (.int .u64 (bor x y 0)) ∧ ∃ k, w' = (w.setCell ⟨g, o, none⟩ (.int .u64 ((x - y) % 18446744073709551616))).drewN k := by
  go_enter Yba.func18, Yba.ntmps18
  go_wp2
  refine wp_loop_rounds 2 ?_
  rw [rounds_succ]
  go_wp2
  go_quiet (exact Calls.quiet_of_same (sub_any _ _ _ hx0 hy0 hy1 (by omega) (by omega) _))
  go_wp2
  rw [rounds_succ]
  go_wp2
  go_ret
  exact ⟨rfl, nq, rfl⟩
theorem neq_same (a : Addr) (w : World) : (binOp .neq 73 (.pointer (some a)) (.pointer (some a))).run Yba.prog w = .ok (.bool false) w := by
  have h : (Yba.prog.info? 55).map (·.size) = some 1 := size55
  cases hj : Yba.prog.info? 55 with
  | none => rw [hj] at h; simp at h
  | some j =>
    have h2 : ∀ d : Nat, (Op.equalIn (d + 1) 73 (.pointer (some a)) (.pointer (some a))).run Yba.prog w = .ok true w := fun d => by
      simp [Op.equalIn, run_underlying Yba.underlying73, sizeOf, typeInfo, hj, run_sameAddr_same]
    simp only [binOp]
    simp [Op.equal, Op.maxDepth, h2 9999]
set_option maxHeartbeats 800000 in
/-- addVW over one word in place, no carry out. -/
theorem addVW_one (x y : Int) (g o c1 c2 : Nat) (w : World) (hx0 : 0 ≤ x) (hy0 : 0 ≤ y) (hxy : x + y ≤ 18446744073709551615)
    (hx : w.cell? ⟨g, o, none⟩ = some (.int .u64 x)) (hf : w.frozen? ⟨g, o, none⟩ = false) :
    Calls Yba.prog 38 #[.slice (some ⟨g, o, none⟩) 1 c1, .slice (some ⟨g, o, none⟩) 1 c2, .int .u64 y] w fun e w' =>
      e = .returned (.int .u64 0) ∧ ∃ k, w' = (w.setCell ⟨g, o, none⟩ (.int .u64 (x + y))).drewN k := by
  have hq := neq_same ⟨g, o, none⟩
  have e0 : (x + y + 0) / 18446744073709551616 = 0 := by omega
  have e1 : (x + y + 0) % 18446744073709551616 = x + y := by omega
  have A : ∀ w, Calls Yba.prog 39 #[.int .u64 x, .int .u64 y, .int .u64 0] w fun e w' => e = .returned (.tuple #[.int .u64 (x + y), .int .u64 0]) ∧ w' = w := by
    intro w
    have := add_any x y 0 hx0 (by omega) hy0 (by omega) (by omega) (by omega) w
    rw [e0, e1] at this
    exact this
  have AA : Hid (∀ w, Calls Yba.prog 39 #[.int .u64 x, .int .u64 y, .int .u64 0] w fun e w' => e = .returned (.tuple #[.int .u64 (x + y), .int .u64 0]) ∧ w' = w) := A
  clear A e0 e1
  go_enter Yba.func38, Yba.ntmps38
  go_wp2_with (go_at_call 39; refine (AA.out _).mono ?_; rintro e w' ⟨rfl, rfl⟩)
  go_quiet (fail)
  go_wp2
  go_ret
  exact ⟨rfl, nq, rfl⟩
set_option maxHeartbeats 800000 in
/-- subVW over one word in place, no borrow out. -/
theorem subVW_one (x y : Int) (g o c1 c2 : Nat) (w : World) (hy0 : 0 ≤ y) (hxy : y ≤ x) (hx1 : x ≤ 18446744073709551615)
    (hx : w.cell? ⟨g, o, none⟩ = some (.int .u64 x)) (hf : w.frozen? ⟨g, o, none⟩ = false) :
    Calls Yba.prog 41 #[.slice (some ⟨g, o, none⟩) 1 c1, .slice (some ⟨g, o, none⟩) 1 c2, .int .u64 y] w fun e w' =>
      e = .returned (.int .u64 0) ∧ ∃ k, w' = (w.setCell ⟨g, o, none⟩ (.int .u64 (x - y))).drewN k := by
  have hq := neq_same ⟨g, o, none⟩
  have e0 : bor x y 0 = 0 := by unfold bor; rw [if_neg (by omega)]
  have e1 : (x - y - 0) % 18446744073709551616 = x - y := by omega
  have A : ∀ w, Calls Yba.prog 42 #[.int .u64 x, .int .u64 y, .int .u64 0] w fun e w' => e = .returned (.tuple #[.int .u64 (x - y), .int .u64 0]) ∧ w' = w := by
    intro w
    have := sub_any x y 0 (by omega) hy0 (by omega) (by omega) (by omega) w
    rw [e0, e1] at this
    exact this
  have AA : Hid (∀ w, Calls Yba.prog 42 #[.int .u64 x, .int .u64 y, .int .u64 0] w fun e w' => e = .returned (.tuple #[.int .u64 (x - y), .int .u64 0]) ∧ w' = w) := A
  clear A e0 e1
  go_enter Yba.func41, Yba.ntmps41
  go_wp2_with (go_at_call 42; refine (AA.out _).mono ?_; rintro e w' ⟨rfl, rfl⟩)
  go_quiet (fail)
  go_wp2
  go_ret
  exact ⟨rfl, nq, rfl⟩
end Go.Proofs.Ybulkcfek.big
