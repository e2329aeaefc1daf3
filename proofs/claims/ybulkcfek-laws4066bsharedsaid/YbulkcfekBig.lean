import Derived.Test.YbulkcfekRows
import Derived.Test.YbulkcfekShelf
import Derived.WalkKit
import Derived.ProofKit
import Derived.OpenShut
import Derived.WalkSpells
import Derived.WalkLawsBesides
import Derived.Deep.QuietTactic
import Derived.BigQuiet
import Derived.LaidEqlPtr
namespace Go.Proofs.Ybulkcfek.big
open Go.ChangeShapes Go.WideShapes Go.ChangeAt Go.RowKit
set_option linter.unusedVariables false
set_option maxHeartbeats 400000 in
theorem bitLen_nil (a : Option Addr) (c : Nat) (w : World) :
    Calls Yba.prog 24 #[.slice a 0 c] w fun e w' => e = .returned (.int .i64 0) ∧ w' = w := by
  go_enter Yba.func24, Yba.ntmps24
  go_wp2
  go_ret
  exact ⟨rfl, rfl⟩
theorem bits_range (op : BinOp) (x y : Int) : 0 ≤ bits op .u64 x y ∧ bits op .u64 x y ≤ 18446744073709551615 := bounds_u64 (wf_bits op .u64 x y)
theorem len_any (x y : Int) (w : World) :
    Calls Yba.prog 31 #[.int .u64 (bits .or .u64 x y)] w fun e w' => ∃ k : Int, 0 ≤ k ∧ k ≤ 64 ∧ e = .returned (.int .i64 k) ∧ w' = w := by
  have hb := bits_range .or x y
  refine (Yba.bits_Len _ w hb.1 hb.2).mono ?_
  rintro e w' ⟨rfl, rfl⟩
  have := Lib.bitLen_le (bits .or .u64 x y).toNat 64 (Nat.le_refl _) (by omega)
  exact ⟨_, by omega, by omega, rfl, rfl⟩
set_option maxHeartbeats 800000 in
theorem bitLen_one (b off c : Nat) (x : Int) (w : World) (hx : w.cell? ⟨b, off, none⟩ = some (.int .u64 x)) :
    Calls Yba.prog 24 #[.slice (some ⟨b, off, none⟩) 1 c] w fun e w' => ∃ k : Int, 0 ≤ k ∧ k ≤ 64 ∧ e = .returned (.int .i64 k) ∧ w' = w := by
  go_enter Yba.func24, Yba.ntmps24
  go_wp2_with (go_at_call 31; refine (len_any _ _ _).mono ?_; rintro e w' ⟨k, hk0, hk1, rfl, rfl⟩)
  go_ret
  exact ⟨_, hk0, hk1, rfl, rfl⟩
set_option maxHeartbeats 800000 in
theorem natcmp_eq (n : Nat) (zs : List Int) (bp op cp bq oq cq : Nat) (w : World) (hn : 0 < n) (hm : n ≤ 9223372036854775807)
   (hp : ∀ i, i < n → w.cell? ⟨bp, op + i, none⟩ = some (.int .u64 (zs.getD i 0)))
   (hq : ∀ i, i < n → w.cell? ⟨bq, oq + i, none⟩ = some (.int .u64 (zs.getD i 0))) :
    Calls Yba.prog 25 #[.slice (some ⟨bp, op, none⟩) n cp, .slice (some ⟨bq, oq, none⟩) n cq] w fun e w' => e = .returned (.int .i64 0) ∧ ∃ k, w' = w.drewN k := by
  have h00 : ((n : Int) == 0) = false := by simp; omega
  go_enter Yba.func25, Yba.ntmps25
  go_wp2
  go_loopw [7] (fun i wr => ∃ k q : Nat, k < n ∧ i = .int .i64 k ∧ wr = w.drewN q) (fun i _ => (intOf i).toNat)
  case atStart => exact ⟨n - 1, 0, by omega, by simp; omega, rfl⟩
  case round =>
    obtain ⟨k, q, hk, rfl, rfl⟩ := hrel
    have hp' := hp k hk
    have hq' := hq k hk
    have hp0 := hp 0 hn
    have hq0 := hq 0 hn
    simp only [Nat.add_zero] at hp0 hq0
    clear hp hq
    by_cases hlt : 0 < k
    · go_wp2
      go_quiet (fail)
      go_wp2
      go_roundw
      case rel => exact ⟨k - 1, _, by omega, by simp; omega, rfl⟩
      case measure => simp [intOf]; omega
    · obtain rfl : k = 0 := by omega
      have hd : decide ((0 : Int) < ((0 : Nat) : Int)) = false := by simp
      go_wp2
      go_quiet (fail)
      go_wp2
      go_quiet (fail)
      go_wp2
      go_quiet (fail)
      go_wp2
      go_ret
      simp only [World.drewN_drewN]
      exact ⟨rfl, _, rfl⟩
set_option maxHeartbeats 400000 in
theorem natcmp_nil (a b : Option Addr) (c d : Nat) (w : World) :
    Calls Yba.prog 25 #[.slice a 0 c, .slice b 0 d] w fun e w' => e = .returned (.int .i64 0) ∧ ∃ k, w' = w.drewN k := by
  go_enter Yba.func25, Yba.ntmps25
  go_wp2
  go_ret
  exact ⟨rfl, 0, rfl⟩
theorem quiet_at {P : Program} {f : FuncId} {args : Array Value} {w : World} {q a : Nat} {v : Value}
    (h : Calls P f args (w.drewN (q + a)) fun e w' => e = .returned v ∧ ∃ m, w' = (w.drewN (q + a)).drewN m) :
    Calls P f args (w.drewN (q + a)) fun e w'' => e = .returned v ∧ ∃ n, w'' = w.drewN (q + n) :=
  h.mono fun _ _ ⟨he, m, hm⟩ => ⟨he, a + m, by rw [hm, World.drewN_drewN, Nat.add_assoc]⟩
theorem info46 : (Yba.prog.info? 46).map (·.size) = some 2 := by kernel_rfl
theorem eql_other (b1 o1 b2 o2 : Nat) (w : World) (hne : ¬ b1 = b2) {x1 x2 : Array Value} {t1 t2 : TypeId}
   (hb1 : w.heap[b1]? = some (.cells x1 t1 (0, 0))) (hb2 : w.heap[b2]? = some (.cells x2 t2 (0, 0))) :
   (binOp .eql 23 (.pointer (some ⟨b1, o1, none⟩)) (.pointer (some ⟨b2, o2, none⟩))).run Yba.prog w = .ok (.bool false) w := by
  have h := info46
  cases hj : Yba.prog.info? 46 with
  | none => rw [hj] at h; simp at h
  | some j =>
    rw [hj] at h
    simp at h
    exact run_eql_ptr_other w Yba.underlying23 hj (by omega) (by intro e; cases e; exact hne rfl) hb1 hb2
theorem cell_of_block {w : World} {b o : Nat} {x : Array Value} {t : TypeId} {v : Value} (hb : w.heap[b]? = some (.cells x t (0, 0))) (hx : x[o]? = some v) : w.cell? ⟨b, o, none⟩ = some v := by
  simp [World.cell?, hb, hx]
set_option maxHeartbeats 800000 in
theorem cmp_eq (b1 b2 : Nat) (ng : Bool) (a1 a2 : Option Addr) (n c1 c2 : Nat) (w : World) (hne : ¬ b1 = b2)
   (hb1 : w.heap[b1]? = some (.cells #[.bool ng, .slice a1 n c1] 46 (0, 0))) (hb2 : w.heap[b2]? = some (.cells #[.bool ng, .slice a2 n c2] 46 (0, 0)))
   (hc : ∀ k, Calls Yba.prog 25 #[.slice a1 n c1, .slice a2 n c2] (w.drewN k) fun e w' => e = .returned (.int .i64 0) ∧ ∃ m, w' = (w.drewN k).drewN m) :
    Calls Yba.prog 11 #[.pointer (some ⟨b1, 0, none⟩), .pointer (some ⟨b2, 0, none⟩)] w fun e w' => e = .returned (.int .i64 0) ∧ ∃ k, w' = w.drewN k := by
  have HC : Hid (∀ k, Calls Yba.prog 25 #[.slice a1 n c1, .slice a2 n c2] (w.drewN k) fun e w' => e = .returned (.int .i64 0) ∧ ∃ m, w' = (w.drewN k).drewN m) := hc
  clear hc
  have he := eql_other b1 0 b2 0 w hne hb1 hb2
  have h1 := cell_of_block (o := 0) hb1 rfl
  have h2 := cell_of_block (o := 0) hb2 rfl
  have g1 := cell_of_block (o := 1) hb1 rfl
  have g2 := cell_of_block (o := 1) hb2 rfl
  clear hb1 hb2
  cases ng
  all_goals
    go_enter Yba.func11, Yba.ntmps11
    go_wp2
    go_quiet (fail)
    go_wp2
    go_quiet (exact quiet_at (HC.out _))
    go_wp2
    go_ret
    exact ⟨rfl, _, rfl⟩
end Go.Proofs.Ybulkcfek.big
