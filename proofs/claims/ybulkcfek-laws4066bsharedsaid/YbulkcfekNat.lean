import Derived.Test.YbulkcfekInts
import Derived.Shelf.Spec.BitsCarry
import Derived.Laws.CopyOwn
import Derived.Laws.Twins
import Derived.Deep.RegionWith
namespace Go.Proofs.Ybulkcfek.big
open Go.ChangeShapes Go.WideShapes Go.ChangeAt Go.RowKit
set_option linter.unusedVariables false
/-! ### bits.Add64, Sub64: the model's entries; bits.Add, Sub -/
theorem add64_run (x y c : Int) (hx : 0 ≤ x) (hx' : x ≤ 18446744073709551615) (hy : 0 ≤ y) (hy' : y ≤ 18446744073709551615) (hc0 : 0 ≤ c) (hc : c ≤ 1) (w : World) : (callFunc 47 #[.int .u64 x, .int .u64 y, .int .u64 c]).run Yba.prog w =
    .ok (.value (.tuple #[.int .u64 ((x + y + c) % 18446744073709551616), .int .u64 ((x + y + c) / 18446744073709551616)])) w := by
  obtain ⟨x, rfl⟩ := Int.eq_ofNat_of_zero_le hx
  obtain ⟨y, rfl⟩ := Int.eq_ofNat_of_zero_le hy
  obtain ⟨c, rfl⟩ := Int.eq_ofNat_of_zero_le hc0
  rw [run_callFunc_extern Yba.func47 (by kernel_rfl) (by kernel_rfl) (by kernel_rfl) (e := add64Entry) (by kernel_rfl), run_add64 x y c (by omega) (by omega) (by omega) (by omega)]
  rfl
theorem sub64_run (x y b : Int) (hx : 0 ≤ x) (hy : 0 ≤ y) (hy' : y ≤ 18446744073709551615) (hb0 : 0 ≤ b) (hb : b ≤ 1) (w : World) : (callFunc 49 #[.int .u64 x, .int .u64 y, .int .u64 b]).run Yba.prog w =
    .ok (.value (.tuple #[.int .u64 ((x - y - b) % 18446744073709551616), .int .u64 (if x < y + b then 1 else 0)])) w := by
  obtain ⟨x, rfl⟩ := Int.eq_ofNat_of_zero_le hx
  obtain ⟨y, rfl⟩ := Int.eq_ofNat_of_zero_le hy
  obtain ⟨b, rfl⟩ := Int.eq_ofNat_of_zero_le hb0
  rw [run_callFunc_extern Yba.func49 (by kernel_rfl) (by kernel_rfl) (by kernel_rfl) (e := sub64Entry) (by kernel_rfl), run_sub64 x y b (by omega)]
  have e1 : (((x + 18446744073709551616 - y - b) % 18446744073709551616 : Nat) : Int) = ((x : Int) - y - b) % 18446744073709551616 := by omega
  have e2 : ((if x < y + b then 1 else 0 : Nat) : Int) = if (x : Int) < y + b then 1 else 0 := by split <;> split <;> omega
  rw [← e1, ← e2]
  rfl
def bor (x y b : Int) : Int := if x < y + b then 1 else 0
theorem bor_01 (x y b : Int) : 0 ≤ bor x y b ∧ bor x y b ≤ 1 := by unfold bor; split <;> omega
theorem add_any (x y c : Int) (hx : 0 ≤ x) (hx' : x ≤ 18446744073709551615) (hy : 0 ≤ y) (hy' : y ≤ 18446744073709551615) (hc0 : 0 ≤ c) (hc : c ≤ 1) (w : World) :
    Calls Yba.prog 39 #[.int .u64 x, .int .u64 y, .int .u64 c] w fun e w' => e = .returned (.tuple #[.int .u64 ((x + y + c) % 18446744073709551616), .int .u64 ((x + y + c) / 18446744073709551616)]) ∧ w' = w := by
  have h := add64_run x y c hx hx' hy hy' hc0 hc
  go_enter Yba.func39, Yba.ntmps39
  go_wp2
  go_ret2
  exact ⟨rfl, rfl⟩
theorem sub_any (x y b : Int) (hx : 0 ≤ x) (hy : 0 ≤ y) (hy' : y ≤ 18446744073709551615) (hb0 : 0 ≤ b) (hb : b ≤ 1) (w : World) :
    Calls Yba.prog 42 #[.int .u64 x, .int .u64 y, .int .u64 b] w fun e w' => e = .returned (.tuple #[.int .u64 ((x - y - b) % 18446744073709551616), .int .u64 (bor x y b)]) ∧ w' = w := by
  have h := sub64_run x y b hx hy hy' hb0 hb
  have h2 : (fun w => (callFunc 49 #[.int .u64 x, .int .u64 y, .int .u64 b]).run Yba.prog w) = fun w => .ok (.value (.tuple #[.int .u64 ((x - y - b) % 18446744073709551616), .int .u64 (bor x y b)])) w := funext h
  have h3 : ∀ w, (callFunc 49 #[.int .u64 x, .int .u64 y, .int .u64 b]).run Yba.prog w = .ok (.value (.tuple #[.int .u64 ((x - y - b) % 18446744073709551616), .int .u64 (bor x y b)])) w := h
  clear h h2
  go_enter Yba.func42, Yba.ntmps42
  go_wp2
  go_ret2
  exact ⟨rfl, rfl⟩
/-! ### nat.make, norm, setWord, setUint64 -/
theorem make_reuse (a : Addr) (l n c : Nat) (h : n ≤ c) (hc : c ≤ 9223372036854775807) (w : World) :
    Calls Yba.prog 34 #[.slice (some a) l c, .int .i64 n] w fun e w' => e = .returned (.slice (some a) n c) ∧ w' = w := by
  go_enter Yba.func34, Yba.ntmps34
  go_wp2
  go_ret
  exact ⟨rfl, rfl⟩
theorem make_0 (w : World) :
    Calls Yba.prog 34 #[.slice none 0 0, .int .i64 0] w fun e w' => e = .returned (.slice none 0 0) ∧ w' = w := by
  go_enter Yba.func34, Yba.ntmps34
  go_wp2
  go_ret
  exact ⟨rfl, rfl⟩
def zero : Value := .int .u64 0
theorem make_1 (w : World) :
    Calls Yba.prog 34 #[.slice none 0 0, .int .i64 1] w fun e w' => e = .returned (.slice (some ⟨w.heap.size, 0, none⟩) 1 1) ∧ w' = w.alloc (.cells #[.int .u64 0] 55) := by
  have hmk : ∀ w, (Instr.makeSlice 44 (.int .i64 1) (.int .i64 1)).run Yba.prog w = .ok (.slice (some ⟨w.heap.size, 0, none⟩) 1 1) (w.alloc (.cells #[.int .u64 0] 55)) := fun _ => by kernel_rfl
  go_enter Yba.func34, Yba.ntmps34
  go_wp2
  go_ret
  exact ⟨rfl, rfl⟩
theorem make_2 (w : World) :
    Calls Yba.prog 34 #[.slice none 0 0, .int .i64 2] w fun e w' => e = .returned (.slice (some ⟨w.heap.size, 0, none⟩) 2 6) ∧ w' = w.alloc (.cells #[.int .u64 0, .int .u64 0, .int .u64 0, .int .u64 0, .int .u64 0, .int .u64 0] 55) := by
  have hmk : ∀ w, (Instr.makeSlice 44 (.int .i64 2) (.int .i64 6)).run Yba.prog w = .ok (.slice (some ⟨w.heap.size, 0, none⟩) 2 6) (w.alloc (.cells #[.int .u64 0, .int .u64 0, .int .u64 0, .int .u64 0, .int .u64 0, .int .u64 0] 55)) := fun _ => by kernel_rfl
  go_enter Yba.func34, Yba.ntmps34
  go_wp2
  go_ret
  exact ⟨rfl, rfl⟩
theorem make_3 (w : World) :
    Calls Yba.prog 34 #[.slice none 0 0, .int .i64 3] w fun e w' => e = .returned (.slice (some ⟨w.heap.size, 0, none⟩) 3 7) ∧ w' = w.alloc (.cells #[.int .u64 0, .int .u64 0, .int .u64 0, .int .u64 0, .int .u64 0, .int .u64 0, .int .u64 0] 55) := by
  have hmk : ∀ w, (Instr.makeSlice 44 (.int .i64 3) (.int .i64 7)).run Yba.prog w = .ok (.slice (some ⟨w.heap.size, 0, none⟩) 3 7) (w.alloc (.cells #[.int .u64 0, .int .u64 0, .int .u64 0, .int .u64 0, .int .u64 0, .int .u64 0, .int .u64 0] 55)) := fun _ => by kernel_rfl
  go_enter Yba.func34, Yba.ntmps34
  go_wp2
  go_ret
  exact ⟨rfl, rfl⟩

theorem norm_any (zs : List Int) (g o c : Nat) (w : World) (hc : zs.length ≤ c) (hm : c ≤ 9223372036854775807)
    (hz : ∀ i, i < zs.length → w.cell? ⟨g, o + i, none⟩ = some (.int .u64 (zs.getD i 0))) :
    Calls Yba.prog 36 #[.slice (some ⟨g, o, none⟩) zs.length c] w fun e w' => ∃ m : Nat, m ≤ zs.length ∧ (∀ i, m ≤ i → i < zs.length → zs.getD i 0 = 0) ∧ (0 < m → zs.getD (m - 1) 0 ≠ 0) ∧ e = .returned (.slice (some ⟨g, o, none⟩) m c) ∧ w' = w := by
  obtain ⟨n, hn⟩ : ∃ n, n = zs.length := ⟨_, rfl⟩
  rw [← hn] at hc hz ⊢
  have HN : Hid (n = zs.length) := hn
  clear hn
  go_enter Yba.func36, Yba.ntmps36
  go_wp2
  go_loop [3] (fun i => ∃ k : Nat, k ≤ n ∧ i = .int .i64 k ∧ (∀ i, k ≤ i → i < n → zs.getD i 0 = 0)) (fun i => (intOf i).toNat)
  case atStart => exact ⟨n, Nat.le_refl _, rfl, fun i h1 h2 => by omega⟩
  case round =>
    obtain ⟨k, hk, rfl, hall⟩ := hrel
    have HA : Hid (∀ i, k ≤ i → i < n → zs.getD i 0 = 0) := hall
    clear hall
    by_cases hk0 : 0 < k
    · have hcell := hz (k - 1) (by omega)
      clear hz
      obtain ⟨z, hzz⟩ : ∃ z, z = zs.getD (k - 1) 0 := ⟨_, rfl⟩
      rw [← hzz] at hcell
      have HZ : Hid (z = zs.getD (k - 1) 0) := hzz
      clear hzz
      by_cases hz0 : z = 0
      · subst hz0
        go_wp2
        go_round
        case rel => exact ⟨k - 1, by omega, by go_num, fun i h1 h2 => by
          by_cases e : i = k - 1
          · subst e; exact HZ.out.symm
          · exact HA.out i (by omega) h2⟩
        case measure => simp [intOf]; omega
      · have hz1 : (z == 0) = false := by simpa using hz0
        go_wp2
        go_ret
        exact ⟨k, hk, HA.out, fun _ => by have := HZ.out; rw [List.getD_eq_getElem?_getD] at this; rw [← this]; exact hz0, rfl, rfl⟩
    · obtain rfl : k = 0 := by omega
      clear hz
      go_wp2
      go_ret
      exact ⟨0, Nat.zero_le _, HA.out, fun h => absurd h (Nat.lt_irrefl _), rfl, rfl⟩
end Go.Proofs.Ybulkcfek.big
