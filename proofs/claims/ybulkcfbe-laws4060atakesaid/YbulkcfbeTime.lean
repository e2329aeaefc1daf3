/- time.Time as far as the road needs it: times that are Time{}.Add(d). -/
import Derived.Test.YbulkcfbeMaps
import Derived.Laws.Bits64b
namespace Go.Proofs.Ybulkcfbe.tm
open Go.ChangeShapes Go.WideShapes Go.ChangeAt Go.RowKit
set_option linter.unusedVariables false
theorem and_ns {x : Nat} (h : x < 1000000000) : bits .and .u64 (x : Int) 1073741823 = x := by
  have := bits_and_u64_nat x 1073741823 (by omega) (by omega)
  rw [show ((1073741823 : Nat) : Int) = 1073741823 from rfl] at this
  rw [this, show x &&& 1073741823 = x % 2 ^ 30 from Nat.and_two_pow_sub_one_eq_mod x 30, Nat.mod_eq_of_lt (by omega)]
theorem and_mono {x : Nat} (h : x < 1000000000) : bits .and .u64 (x : Int) 9223372036854775808 = 0 := by
  have := bits_and_u64_nat x 9223372036854775808 (by omega) (by omega)
  rw [show ((9223372036854775808 : Nat) : Int) = 9223372036854775808 from rfl] at this
  rw [this]
  have h2 : x &&& 9223372036854775808 = 0 := by
    apply Nat.eq_of_testBit_eq
    intro i
    rw [Nat.testBit_and, show (9223372036854775808 : Nat) = 2 ^ 63 from rfl, Nat.testBit_two_pow, Nat.zero_testBit]
    by_cases e : 63 = i
    · subst e; rw [Nat.testBit_lt_two_pow (by omega)]; rfl
    · simp [e]
  rw [h2]
  rfl
theorem and_lt {x y : Nat} (h : x < 1000000000) (hy : y < 1000000000) : bits .and .u64 (bits .and .u64 (x : Int) (y : Int)) 9223372036854775808 = 0 := by
  rw [bits_and_u64_nat x y (by omega) (by omega)]
  exact and_mono (Nat.lt_of_le_of_lt Nat.and_le_left h)
theorem or_zero {x : Nat} (h : x < 1000000000) : bits .or .u64 0 (x : Int) = x := by
  have := bits_or_u64_nat 0 x (by omega) (by omega)
  simpa using this
theorem nsec (b x : Nat) (w : World) (hx : x < 1000000000) (h : w.cell? ⟨b, 0, none⟩ = some (.int .u64 x)) :
    Calls Yba.prog 17 #[.pointer (some ⟨b, 0, none⟩)] w fun e w' => e = .returned (.int .i32 x) ∧ w' = w := by
  have ha := and_ns hx
  go_enter Yba.func17, Yba.ntmps17
  go_wp2
  go_ret
  refine ⟨?_, rfl⟩
  go_num
theorem sec (b x : Nat) (y : Int) (w : World) (hx : x < 1000000000) (h : w.cell? ⟨b, 0, none⟩ = some (.int .u64 x)) (h1 : w.cell? ⟨b, 1, none⟩ = some (.int .i64 y)) :
    Calls Yba.prog 20 #[.pointer (some ⟨b, 0, none⟩)] w fun e w' => e = .returned (.int .i64 y) ∧ w' = w := by
  have ha := and_mono hx
  go_enter Yba.func20, Yba.ntmps20
  go_wp2
  go_ret
  exact ⟨rfl, rfl⟩
theorem addSec (b x : Nat) (d : Int) (w : World) (hx : x < 1000000000) (h : w.cell? ⟨b, 0, none⟩ = some (.int .u64 x)) (h1 : w.cell? ⟨b, 1, none⟩ = some (.int .i64 0)) (hf : w.frozen? ⟨b, 1, none⟩ = false) (hd : -1000 ≤ d ∧ d ≤ 1000) :
    Calls Yba.prog 18 #[.pointer (some ⟨b, 0, none⟩), .int .i64 d] w fun e w' => e = .returned (.tuple #[]) ∧ w' = w.setCell ⟨b, 1, none⟩ (.int .i64 d) := by
  have ha := and_mono hx
  by_cases h0 : 0 < d
  all_goals
    go_enter Yba.func18, Yba.ntmps18
    go_wp2
    go_end0
    exact ⟨rfl, rfl⟩
theorem andNot0 : bits .andNot .u64 0 1073741823 = 0 := by decide
/-- time.Time{}.Add(d). -/
def tm (d : Int) : Value := .agg #[.int .u64 (d % 1000000000), .int .i64 (d / 1000000000), .pointer none]
set_option maxRecDepth 4000 in
theorem add (d : Int) (w : World) (hd : -2147483648 ≤ d ∧ d ≤ 2147483647) :
    Calls Yba.prog 8 #[.agg #[.int .u64 0, .int .i64 0, .pointer none], .int .i64 d] w fun e w' => e = .returned (tm d) ∧ ∃ o1 o2, w' = (w.alloc o1).alloc o2 := by
  have ha0 := andNot0
  obtain ⟨q, hq⟩ : ∃ q, d.tdiv 1000000000 = q := ⟨_, rfl⟩
  obtain ⟨r, hr⟩ : ∃ r, d.tmod 1000000000 = r := ⟨_, rfl⟩
  have e1 : d = 1000000000 * q + r := by rw [← hq, ← hr]; exact (Int.mul_tdiv_add_tmod d 1000000000).symm
  have e2 : -1000000000 < r ∧ r < 1000000000 ∧ (0 ≤ d → 0 ≤ r) ∧ (d ≤ 0 → r ≤ 0) := by
    rw [← hr]
    refine ⟨Int.lt_tmod_of_pos d (by omega), Int.tmod_lt_of_pos d (by omega), fun h => Int.tmod_nonneg _ h, fun h => ?_⟩
    have := Int.tmod_nonneg (a := -d) 1000000000 (by omega)
    rw [Int.neg_tmod] at this
    omega
  by_cases h0 : r < 0
  · obtain ⟨x, hx⟩ : ∃ x : Nat, r + 1000000000 = x := ⟨(r + 1000000000).toNat, by omega⟩
    have hxl : x < 1000000000 := by omega
    have ho := or_zero hxl
    have hT : Hid (tm d = .agg #[.int .u64 x, .int .i64 (q - 1), .pointer none]) := by
      show _ = _
      unfold tm
      rw [show d % 1000000000 = x by omega, show d / 1000000000 = q - 1 by omega]
    have hqb : -4 ≤ q ∧ q ≤ 4 := by omega
    clear e1 e2
    go_enter Yba.func8, Yba.ntmps8
    go_wp2_with (go_at_call 17; refine (nsec w.heap.size 0 _ (by omega) (by simp)).mono ?_; rintro _ w' ⟨rfl, hw⟩; obtain rfl := hw.symm)
    refine (addSec w.heap.size x (q - 1) _ hxl (by simp) (by simp) (by simp) (by omega)).mono ?_
    rintro _ w' ⟨rfl, hw⟩
    obtain rfl := hw.symm
    clear hw
    have hm := and_mono hxl
    go_wp2
    refine bodyPost_ret (v := .agg #[.int .u64 x, .int .i64 (q - 1), .pointer none]) (by simp [results, Yba.results8, go_sem]) rfl ⟨by rw [hT.out], _, _, rfl⟩
  · obtain ⟨x, hx⟩ : ∃ x : Nat, r = x := ⟨r.toNat, by omega⟩
    have hxl : x < 1000000000 := by omega
    have ho := or_zero hxl
    rw [← hx] at ho
    have HX : Hid (r = x) := hx
    have hr0 : 0 ≤ r ∧ r < 1000000000 := by omega
    have hT : Hid (tm d = .agg #[.int .u64 r, .int .i64 q, .pointer none]) := by
      show _ = _
      unfold tm
      rw [show d % 1000000000 = r by omega, show d / 1000000000 = q by omega]
    have hqb : -4 ≤ q ∧ q ≤ 4 := by omega
    clear e1 e2 hx h0
    go_enter Yba.func8, Yba.ntmps8
    go_wp2_with (go_at_call 17; refine (nsec w.heap.size 0 _ (by omega) (by simp)).mono ?_; rintro _ w' ⟨rfl, hw⟩; obtain rfl := hw.symm)
    refine (addSec w.heap.size x q _ hxl (by simp [HX.out]) (by simp) (by simp) (by omega)).mono ?_
    rintro _ w' ⟨rfl, hw⟩
    obtain rfl := hw.symm
    clear hw
    have hm := and_mono hxl
    rw [← HX.out] at hm
    go_wp2
    refine bodyPost_ret (v := .agg #[.int .u64 r, .int .i64 q, .pointer none]) (by simp [results, Yba.results8, go_sem]) rfl ⟨by rw [hT.out], _, _, rfl⟩
set_option maxHeartbeats 1600000 in
theorem before (a b : Int) (w : World) : Calls Yba.prog 24 #[tm a, tm b] w fun e w' => e = .returned (.bool (decide (a < b))) ∧ ∃ o1 o2, w' = (w.alloc o1).alloc o2 := by
  obtain ⟨x, hx⟩ : ∃ x : Nat, a % 1000000000 = x := ⟨(a % 1000000000).toNat, by omega⟩
  obtain ⟨y, hy⟩ : ∃ y : Nat, b % 1000000000 = y := ⟨(b % 1000000000).toNat, by omega⟩
  obtain ⟨p, hp⟩ : ∃ p, a / 1000000000 = p := ⟨_, rfl⟩
  obtain ⟨q, hq⟩ : ∃ q, b / 1000000000 = q := ⟨_, rfl⟩
  have hxl : x < 1000000000 := by omega
  have hyl : y < 1000000000 := by omega
  have hl := and_lt hxl hyl
  have HD : Hid ((a < b) = (p < q ∨ (p = q ∧ x < y))) := by
    show _ = _
    apply propext
    constructor
    · intro h; omega
    · intro h; omega
  unfold tm
  rw [hx, hy, hp, hq]
  clear hx hy hp hq
  have n1 := nsec w.heap.size x ((w.alloc (.cells #[.int .u64 x, .int .i64 p, .pointer none] 37)).alloc (.cells #[.int .u64 y, .int .i64 q, .pointer none] 37)) hxl (by simp)
  have n2 := nsec (w.heap.size + 1) y ((w.alloc (.cells #[.int .u64 x, .int .i64 p, .pointer none] 37)).alloc (.cells #[.int .u64 y, .int .i64 q, .pointer none] 37)) hyl (by simp)
  have s1 := sec w.heap.size x p ((w.alloc (.cells #[.int .u64 x, .int .i64 p, .pointer none] 37)).alloc (.cells #[.int .u64 y, .int .i64 q, .pointer none] 37)) hxl (by simp) (by simp)
  have s2 := sec (w.heap.size + 1) y q ((w.alloc (.cells #[.int .u64 x, .int .i64 p, .pointer none] 37)).alloc (.cells #[.int .u64 y, .int .i64 q, .pointer none] 37)) hyl (by simp) (by simp)
  rcases Int.lt_trichotomy p q with h | h | h
  · have e : Hid (decide (a < b) = true) := decide_eq_true (HD.out ▸ .inl h)
    clear HD
    go_enter Yba.func24, Yba.ntmps24
    go_wp2_with fail
    refine s1.mono ?_
    rintro _ w' ⟨rfl, hw⟩
    obtain rfl := hw.symm
    clear hw
    go_wp2_with fail
    refine s2.mono ?_
    rintro _ w' ⟨rfl, hw⟩
    obtain rfl := hw.symm
    clear hw
    go_wp2_with fail
    go_ret
    exact ⟨by rw [e.out]; rfl, _, _, rfl⟩
  · by_cases hxy : x < y
    · have hxy' : (x : Int) < (y : Int) := by omega
      have e : Hid (decide (a < b) = true) := decide_eq_true (HD.out ▸ .inr ⟨h, hxy⟩)
      clear HD hxy
      subst h
      go_enter Yba.func24, Yba.ntmps24
      go_wp2_with fail
      refine s1.mono ?_
      rintro _ w' ⟨rfl, hw⟩
      obtain rfl := hw.symm
      clear hw
      go_wp2_with fail
      refine s2.mono ?_
      rintro _ w' ⟨rfl, hw⟩
      obtain rfl := hw.symm
      clear hw
      go_wp2_with fail
      refine n1.mono ?_
      rintro _ w' ⟨rfl, hw⟩
      obtain rfl := hw.symm
      clear hw
      go_wp2_with fail
      refine n2.mono ?_
      rintro _ w' ⟨rfl, hw⟩
      obtain rfl := hw.symm
      clear hw
      go_wp2_with fail
      go_ret
      exact ⟨by rw [e.out]; rfl, _, _, rfl⟩
    · have hxy' : ¬ (x : Int) < (y : Int) := by omega
      have e : Hid (decide (a < b) = false) := decide_eq_false (fun x => by rw [HD.out] at x; omega)
      have HXY : Hid (¬ x < y) := hxy
      clear HD hxy hxy'
      subst h
      go_enter Yba.func24, Yba.ntmps24
      go_wp2_with fail
      refine s1.mono ?_
      rintro _ w' ⟨rfl, hw⟩
      obtain rfl := hw.symm
      clear hw
      go_wp2_with fail
      refine s2.mono ?_
      rintro _ w' ⟨rfl, hw⟩
      obtain rfl := hw.symm
      clear hw
      go_wp2_with fail
      refine n1.mono ?_
      rintro _ w' ⟨rfl, hw⟩
      obtain rfl := hw.symm
      clear hw
      go_wp2_with fail
      refine n2.mono ?_
      rintro _ w' ⟨rfl, hw⟩
      obtain rfl := hw.symm
      clear hw
      go_wp2_with fail
      go_ret
      exact ⟨by rw [e.out]; show Ending.returned (.bool (decide (x < y))) = _; rw [decide_eq_false HXY.out], _, _, rfl⟩
  · have h' : ¬ p < q := by omega
    have h'' : ¬ p = q := by omega
    have e : Hid (decide (a < b) = false) := decide_eq_false (fun x => by rw [HD.out] at x; omega)
    clear HD
    go_enter Yba.func24, Yba.ntmps24
    go_wp2_with fail
    refine s1.mono ?_
    rintro _ w' ⟨rfl, hw⟩
    obtain rfl := hw.symm
    clear hw
    go_wp2_with fail
    refine s2.mono ?_
    rintro _ w' ⟨rfl, hw⟩
    obtain rfl := hw.symm
    clear hw
    go_wp2_with fail
    go_ret
    exact ⟨by rw [e.out]; show Ending.returned (.bool (decide (p < q))) = _; rw [decide_eq_false (by omega)], _, _, rfl⟩
set_option maxHeartbeats 1600000 in
/-- Equal at one and the same time. -/
theorem equal (a : Int) (w : World) : Calls Yba.prog 9 #[tm a, tm a] w fun e w' => e = .returned (.bool true) ∧ ∃ o1 o2, w' = (w.alloc o1).alloc o2 := by
  obtain ⟨x, hx⟩ : ∃ x : Nat, a % 1000000000 = x := ⟨(a % 1000000000).toNat, by omega⟩
  obtain ⟨p, hp⟩ : ∃ p, a / 1000000000 = p := ⟨_, rfl⟩
  have hxl : x < 1000000000 := by omega
  have hl := and_lt hxl hxl
  unfold tm
  rw [hx, hp]
  clear hx hp
  have n1 := nsec w.heap.size x ((w.alloc (.cells #[.int .u64 x, .int .i64 p, .pointer none] 37)).alloc (.cells #[.int .u64 x, .int .i64 p, .pointer none] 37)) hxl (by simp)
  have n2 := nsec (w.heap.size + 1) x ((w.alloc (.cells #[.int .u64 x, .int .i64 p, .pointer none] 37)).alloc (.cells #[.int .u64 x, .int .i64 p, .pointer none] 37)) hxl (by simp)
  have s1 := sec w.heap.size x p ((w.alloc (.cells #[.int .u64 x, .int .i64 p, .pointer none] 37)).alloc (.cells #[.int .u64 x, .int .i64 p, .pointer none] 37)) hxl (by simp) (by simp)
  have s2 := sec (w.heap.size + 1) x p ((w.alloc (.cells #[.int .u64 x, .int .i64 p, .pointer none] 37)).alloc (.cells #[.int .u64 x, .int .i64 p, .pointer none] 37)) hxl (by simp) (by simp)
  go_enter Yba.func9, Yba.ntmps9
  go_wp2_with fail
  refine s1.mono ?_
  rintro _ w' ⟨rfl, hw⟩
  obtain rfl := hw.symm
  clear hw
  go_wp2_with fail
  refine s2.mono ?_
  rintro _ w' ⟨rfl, hw⟩
  obtain rfl := hw.symm
  clear hw
  go_wp2_with fail
  refine n1.mono ?_
  rintro _ w' ⟨rfl, hw⟩
  obtain rfl := hw.symm
  clear hw
  go_wp2_with fail
  refine n2.mono ?_
  rintro _ w' ⟨rfl, hw⟩
  obtain rfl := hw.symm
  clear hw
  go_wp2_with fail
  go_ret
  exact ⟨rfl, _, _, rfl⟩
end Go.Proofs.Ybulkcfbe.tm
