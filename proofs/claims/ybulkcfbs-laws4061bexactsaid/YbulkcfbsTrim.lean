import Derived.Test.YbulkcfbsRev
import Derived.Test.YbulkcfbsEq
namespace Go.Proofs.Ybulkcfbs.items
open Go.ChangeShapes Go.WideShapes Go.ChangeAt Go.RowKit
set_option linter.unusedVariables false
/-! ### The plain law: dropping a leading and a trailing star commutes with reversal -/
def dropF (xs : List Item) : List Item := match xs with | [] => [] | x :: r => if x.node = -1 then r else x :: r
def dropB (xs : List Item) : List Item := (dropF xs.reverse).reverse
def trim (xs : List Item) : List Item := dropB (dropF xs)
theorem dropB_snoc (xs : List Item) (z : Item) : dropB (xs ++ [z]) = if z.node = -1 then xs else xs ++ [z] := by
  unfold dropB
  rw [List.reverse_append]
  show (dropF (z :: xs.reverse)).reverse = _
  unfold dropF
  split <;> rename_i h
  · cases h
  · rename_i x r
    cases h
    split <;> simp
theorem drop_comm (xs : List Item) : dropF (dropB xs) = dropB (dropF xs) := by
  rcases List.eq_nil_or_concat xs with rfl | ⟨ys, z, rfl⟩
  · rfl
  · rw [List.concat_eq_append, dropB_snoc]
    cases ys with
    | nil =>
      by_cases hz : z.node = -1
      · rw [if_pos hz]; simp [dropF, hz, dropB]
      · rw [if_neg hz]; simp [dropF, hz, dropB]
    | cons y ys =>
      by_cases hy : y.node = -1
      · have e1 : dropF (y :: ys ++ [z]) = ys ++ [z] := by simp [dropF, hy]
        rw [e1, dropB_snoc]
        by_cases hz : z.node = -1
        · rw [if_pos hz, if_pos hz]; simp [dropF, hy]
        · rw [if_neg hz, if_neg hz]; simp [dropF, hy]
      · have e1 : dropF (y :: ys ++ [z]) = y :: ys ++ [z] := by simp [dropF, hy]
        rw [e1, dropB_snoc]
        by_cases hz : z.node = -1
        · rw [if_pos hz]; simp [dropF, hy]
        · rw [if_neg hz, e1]
theorem trim_reverse (xs : List Item) : trim xs.reverse = (trim xs).reverse := by
  have h := drop_comm xs
  unfold trim
  rw [← h]
  unfold dropB
  simp
theorem dropF_length (xs : List Item) : (dropF xs).length ≤ xs.length := by
  unfold dropF; split
  · simp
  · split <;> simp
theorem dropB_length (xs : List Item) : (dropB xs).length ≤ xs.length := by
  unfold dropB; rw [List.length_reverse]; have := dropF_length xs.reverse; simpa using this
theorem trim_length (xs : List Item) : (trim xs).length ≤ xs.length := Nat.le_trans (dropB_length _) (dropF_length _)
/-! ### trimRuns -/
theorem trim_nil (ad : Addr) (c : Nat) (w : World) :
    Calls Yba.prog 8 #[.slice (some ad) 0 c] w fun e w' => e = .returned (.slice (some ad) 0 c) ∧ w' = w := by
  go_enter Yba.func8, Yba.ntmps8
  go_wp2
  go_ret
  exact ⟨rfl, rfl⟩
theorem trim_star (g o c : Nat) (w : World) (hc : 1 ≤ c) (hm : c ≤ 9223372036854775807) (h0 : w.cell? ⟨g, o, none⟩ = some (.int .i64 (-1))) :
    Calls Yba.prog 8 #[.slice (some ⟨g, o, none⟩) 1 c] w fun e w' => ∃ ad, e = .returned (.slice (some ad) 0 (c - 1)) ∧ w' = w := by
  by_cases h : c = 1
  · subst h
    go_enter Yba.func8, Yba.ntmps8
    go_wp2
    go_ret
    exact ⟨_, rfl, rfl⟩
  · go_enter Yba.func8, Yba.ntmps8
    go_wp2
    go_ret
    exact ⟨_, rfl, rfl⟩
theorem trim_one (g o c : Nat) (x : Int) (w : World) (hc : 1 ≤ c) (hm : c ≤ 9223372036854775807) (h0 : w.cell? ⟨g, o, none⟩ = some (.int .i64 x)) (hx : (x == -1) = false) :
    Calls Yba.prog 8 #[.slice (some ⟨g, o, none⟩) 1 c] w fun e w' => e = .returned (.slice (some ⟨g, o, none⟩) 1 c) ∧ w' = w := by
  go_enter Yba.func8, Yba.ntmps8
  go_wp2
  go_ret
  exact ⟨rfl, rfl⟩
set_option maxHeartbeats 800000 in
theorem trim_ff (g o n c : Nat) (x y : Int) (w : World) (hn : 2 ≤ n) (hc : n ≤ c) (hm : c ≤ 9223372036854775807) (h0 : w.cell? ⟨g, o, none⟩ = some (.int .i64 x)) (hy : w.cell? ⟨g, o + (n - 1) * 5, none⟩ = some (.int .i64 y)) (hx : (x == -1) = false) (hy' : (y == -1) = false) :
    Calls Yba.prog 8 #[.slice (some ⟨g, o, none⟩) n c] w fun e w' => e = .returned (.slice (some ⟨g, o, none⟩) n c) ∧ w' = w := by
  go_enter Yba.func8, Yba.ntmps8
  go_wp2
  go_ret
  exact ⟨rfl, rfl⟩
set_option maxHeartbeats 800000 in
theorem trim_ft (g o n c : Nat) (x : Int) (w : World) (hn : 2 ≤ n) (hc : n ≤ c) (hm : c ≤ 9223372036854775807) (h0 : w.cell? ⟨g, o, none⟩ = some (.int .i64 x)) (hy : w.cell? ⟨g, o + (n - 1) * 5, none⟩ = some (.int .i64 (-1))) (hx : (x == -1) = false) :
    Calls Yba.prog 8 #[.slice (some ⟨g, o, none⟩) n c] w fun e w' => e = .returned (.slice (some ⟨g, o, none⟩) (n - 1) c) ∧ w' = w := by
  go_enter Yba.func8, Yba.ntmps8
  go_wp2
  go_ret
  exact ⟨rfl, rfl⟩
set_option maxHeartbeats 800000 in
theorem trim_tf (g o n c : Nat) (y : Int) (w : World) (hn : 2 ≤ n) (hc : n ≤ c) (hm : c ≤ 9223372036854775807) (h0 : w.cell? ⟨g, o, none⟩ = some (.int .i64 (-1))) (hy : w.cell? ⟨g, o + 5 + (n - 1 - 1) * 5, none⟩ = some (.int .i64 y)) (hy' : (y == -1) = false) :
    Calls Yba.prog 8 #[.slice (some ⟨g, o, none⟩) n c] w fun e w' => e = .returned (.slice (some ⟨g, o + 5, none⟩) (n - 1) (c - 1)) ∧ w' = w := by
  go_enter Yba.func8, Yba.ntmps8
  go_wp2
  go_ret
  exact ⟨rfl, rfl⟩
set_option maxHeartbeats 800000 in
theorem trim_tt (g o n c : Nat) (w : World) (hn : 2 ≤ n) (hc : n ≤ c) (hm : c ≤ 9223372036854775807) (h0 : w.cell? ⟨g, o, none⟩ = some (.int .i64 (-1))) (hy : w.cell? ⟨g, o + 5 + (n - 1 - 1) * 5, none⟩ = some (.int .i64 (-1))) :
    Calls Yba.prog 8 #[.slice (some ⟨g, o, none⟩) n c] w fun e w' => e = .returned (.slice (some ⟨g, o + 5, none⟩) (n - 1 - 1) (c - 1)) ∧ w' = w := by
  go_enter Yba.func8, Yba.ntmps8
  go_wp2
  go_ret
  exact ⟨rfl, rfl⟩
theorem reads_nil (w : World) (a : Option Addr) (c : Nat) (hc : c ≤ 9223372036854775807) : Reads w a c [] := ⟨by simp, hc, fun h => absurd h (by simp)⟩
theorem trim_two (x z : Item) (ys : List Item) : trim (x :: ys ++ [z]) = if x.node = -1 then (if z.node = -1 then ys else ys ++ [z]) else (if z.node = -1 then x :: ys else x :: ys ++ [z]) := by
  unfold trim
  by_cases hx : x.node = -1
  · rw [if_pos hx]
    have : dropF (x :: ys ++ [z]) = ys ++ [z] := by simp [dropF, hx]
    rw [this, dropB_snoc]
  · rw [if_neg hx]
    have : dropF (x :: ys ++ [z]) = x :: ys ++ [z] := by simp [dropF, hx]
    rw [this, dropB_snoc]
theorem At.cast {w : World} {g q q' : Nat} {x : Item} (h : At w g q x) (e : q = q') : At w g q' x := e ▸ h
theorem trim_any (xs : List Item) (ad : Addr) (c : Nat) (w : World) (hx : Reads w (some ad) c xs) :
    Calls Yba.prog 8 #[.slice (some ad) xs.length c] w fun e w' => ∃ ad' c', e = .returned (.slice (some ad') (trim xs).length c') ∧ Reads w (some ad') c' (trim xs) ∧ w' = w := by
  have hmax := hx.max
  match xs, hx with
  | [], hx =>
    refine (trim_nil ad c w).mono ?_
    rintro e w' ⟨rfl, rfl⟩
    exact ⟨ad, c, rfl, hx, rfl⟩
  | [x], hx =>
    obtain ⟨g, o, ha, hA⟩ := hx.cells (by simp)
    obtain rfl : ad = ⟨g, o, none⟩ := by cases ha; rfl
    have h0 := (hA 0 x rfl).c0
    simp only [Nat.zero_mul, Nat.add_zero] at h0
    have hc := hx.cap
    simp only [List.length_singleton] at hc
    by_cases hn : x.node = -1
    · rw [hn] at h0
      refine (trim_star g o c w hc hmax h0).mono ?_
      rintro e w' ⟨ad', rfl, rfl⟩
      have : trim [x] = [] := by simp [trim, dropF, dropB, hn]
      rw [this]
      exact ⟨ad', _, rfl, reads_nil _ _ _ (by omega), rfl⟩
    · refine (trim_one g o c x.node w hc hmax h0 (by simpa using hn)).mono ?_
      rintro e w' ⟨rfl, rfl⟩
      have : trim [x] = [x] := by simp [trim, dropF, dropB, hn]
      rw [this]
      exact ⟨_, _, rfl, hx, rfl⟩
  | x :: y :: r, hx =>
    obtain ⟨ys, z, hyz⟩ : ∃ ys z, y :: r = ys ++ [z] := by
      rcases List.eq_nil_or_concat (y :: r) with h | ⟨ys, z, h⟩
      · cases h
      · exact ⟨ys, z, by rw [h, List.concat_eq_append]⟩
    have hxs : x :: y :: r = x :: ys ++ [z] := by rw [hyz]; rfl
    rw [hxs] at hx ⊢
    have hlen : (x :: ys ++ [z]).length = ys.length + 2 := by simp
    obtain ⟨g, o, ha, hA⟩ := hx.cells (by omega)
    obtain rfl : ad = ⟨g, o, none⟩ := by cases ha; rfl
    have hc := hx.cap
    rw [hlen] at hc ⊢
    have h0 := (hA 0 x rfl).c0
    simp only [Nat.zero_mul, Nat.add_zero] at h0
    have hz := hA (ys.length + 1) z (by simp)
    have hz1 : w.cell? ⟨g, o + (ys.length + 2 - 1) * 5, none⟩ = some (.int .i64 z.node) := (hz.cast (by omega)).c0
    have hz2 : w.cell? ⟨g, o + 5 + (ys.length + 2 - 1 - 1) * 5, none⟩ = some (.int .i64 z.node) := (hz.cast (by omega)).c0
    rw [trim_two]
    by_cases hn : x.node = -1
    · rw [if_pos hn]
      rw [hn] at h0
      by_cases hm : z.node = -1
      · rw [if_pos hm]
        rw [hm] at hz2
        refine (trim_tt g o (ys.length + 2) c w (by omega) hc hmax h0 hz2).mono ?_
        rintro e w' ⟨rfl, rfl⟩
        refine ⟨⟨g, o + 5, none⟩, c - 1, rfl, ⟨by omega, by omega, fun h => ⟨g, o + 5, rfl, fun i u hu => ?_⟩⟩, rfl⟩
        have hi : i < ys.length := by
          rcases Nat.lt_or_ge i ys.length with h' | h'
          · exact h'
          · rw [List.getElem?_eq_none h'] at hu; cases hu
        exact (hA (i + 1) u (by simp [List.getElem?_append_left hi, hu])).cast (by omega)
      · rw [if_neg hm]
        refine (trim_tf g o (ys.length + 2) c z.node w (by omega) hc hmax h0 hz2 (by simpa using hm)).mono ?_
        rintro e w' ⟨rfl, rfl⟩
        refine ⟨⟨g, o + 5, none⟩, c - 1, by simp, ⟨by simp; omega, by omega, fun h => ⟨g, o + 5, rfl, fun i u hu => ?_⟩⟩, rfl⟩
        exact (hA (i + 1) u (by simpa using hu)).cast (by omega)
    · rw [if_neg hn]
      by_cases hm : z.node = -1
      · rw [if_pos hm]
        rw [hm] at hz1
        refine (trim_ft g o (ys.length + 2) c x.node w (by omega) hc hmax h0 hz1 (by simpa using hn)).mono ?_
        rintro e w' ⟨rfl, rfl⟩
        refine ⟨⟨g, o, none⟩, c, by simp, ⟨by simp; omega, by omega, fun h => ⟨g, o, rfl, fun i u hu => ?_⟩⟩, rfl⟩
        have hi : i < (x :: ys).length := by
          rcases Nat.lt_or_ge i (x :: ys).length with h' | h'
          · exact h'
          · rw [List.getElem?_eq_none h'] at hu; cases hu
        exact hA i u (by rw [List.getElem?_append_left hi]; exact hu)
      · rw [if_neg hm]
        refine (trim_ff g o (ys.length + 2) c x.node z.node w (by omega) hc hmax h0 hz1 (by simpa using hn) (by simpa using hm)).mono ?_
        rintro e w' ⟨rfl, rfl⟩
        exact ⟨_, _, by simp, hx, rfl⟩
end Go.Proofs.Ybulkcfbs.items
