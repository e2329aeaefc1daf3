import Derived.Test.YbulkcfbsCopy
namespace Go.Proofs.Ybulkcfbs.items
open Go.ChangeShapes Go.WideShapes Go.ChangeAt Go.RowKit
set_option linter.unusedVariables false
theorem below_grown {B : Nat} {w w' : World} {r : Option Nat} (h : w.grownBy w' r) (hB : B ≤ w.heap.size) (hr : ∀ k, r = some k → B ≤ k) : Below B w w' := (Below.refl _ _).grown h hB hr
theorem build_nil (w : World) : Calls Yba.prog 5 #[.slice none 0 0] w fun e w' => e = .returned (.slice none 0 0) ∧ w' = w := by
  have hsn := fun (w : World) => Lib.run_eql_slice_nil (P := Yba.prog) w 22 37 none 0 0 0 0 Yba.underlying22
  go_enter Yba.func5, Yba.ntmps5
  go_wp2
  go_ret
  exact ⟨rfl, rfl⟩
set_option maxHeartbeats 1600000 in
theorem build_some (xs : List Item) (n c : Nat) (ad : Addr) (w : World) (hl : n = xs.length) (hn : n ≤ 1024) (hx : Reads w (some ad) c xs) :
    Calls Yba.prog 5 #[.slice (some ad) n c] w fun e w' => e = .returned (.slice (some ⟨w.heap.size, 0, none⟩) n n) ∧ w'.ownsRow w.heap.size 30 5 (.slice (some ⟨w.heap.size, 0, none⟩) n n) n (flat xs) ∧ Below w.heap.size w w' := by
  obtain ⟨i0, hi, hz0, hz1, hz2⟩ := info_parts info30
  have HX : Hid (∀ k, k < n → ∃ g o x, ad = ⟨g, o, none⟩ ∧ xs[k]? = some x ∧ At w g (o + k * 5) x) := by
    intro k hk
    obtain ⟨g, o, ha, h⟩ := hx.cells (by omega)
    obtain ⟨x, hxk⟩ : ∃ x, xs[k]? = some x := ⟨xs[k]'(by omega), List.getElem?_eq_getElem (by omega)⟩
    exact ⟨g, o, x, by cases ha; rfl, hxk, h k x hxk⟩
  have HN : Hid (n = xs.length) := hl
  clear hx hl
  have hsn := fun (w : World) => Lib.run_eql_slice_nil (P := Yba.prog) w 22 37 (some ad) n c 0 0 Yba.underlying22
  go_enter Yba.func5, Yba.ntmps5
  go_wp2_with (at_make; refine wpList_make_full _ rfl _ _ 23 rfl w.heap.size 30 i0 _ 5 Yba.underlying23 hi hz0 hz1 .i64 .i64 _ _ n rfl rfl rfl rfl (by rw [hz2]; omega) (by unfold maxLen; omega) (Nat.le_refl _) ?_; intro w1 hown1 hgrow1)
  have HO1 : Hid (w1.ownsRow w.heap.size 30 5 (.slice (some ⟨w.heap.size, 0, none⟩) n n) n (flat (List.replicate n zeroItem))) := by rw [flat_replicate]; exact hown1
  have HB1 : Hid (Below w.heap.size w w1) := below_grown hgrow1 (Nat.le_refl _) (fun k e => by cases e)
  clear hown1 hgrow1 hsn
  go_wp2
  go_loopw [4] (fun i wr => ∃ (k : Nat) (ys : List Item), k ≤ n ∧ i = .int .i64 k ∧ (∀ j, j < k → ys[j]? = xs[j]?) ∧ wr.ownsRow w.heap.size 30 5 (.slice (some ⟨w.heap.size, 0, none⟩) n n) n (flat ys) ∧ Below w.heap.size w wr) (fun i _ => n - (intOf i).toNat)
  case atStart => exact ⟨0, _, by omega, rfl, fun j hj => by omega, HO1.out, HB1.out⟩
  case round =>
    obtain ⟨k, ys, hk, rfl, hyx, hown, hbel⟩ := hrel
    have hl : ys.length = n := by have := hown.1; rw [flat_length] at this; omega
    by_cases hlt : k < n
    · obtain ⟨g, o, x, rfl, hxk, hA⟩ := HX.out k hlt
      have hs := hbel.size
      have hg : g < w.heap.size := lt_of_cell hA.c0
      obtain ⟨d0, d1, d2, d3, d4⟩ := hA.below hbel hg
      have hgr : g < wr.heap.size := by omega
      obtain ⟨x0, x1, x2, x3, x4⟩ := x
      simp only at d0 d1 d2 d3 d4
      have H : Hid (((put5 wr w.heap.size (k * 5) ⟨x0, x1, x2, x3, x4⟩).alloc (.cells #[.int .i64 x0, .int .i64 x1, .string x2, .int .i64 x3, .int .i64 x4] 37)).ownsRow w.heap.size 30 5 (.slice (some ⟨w.heap.size, 0, none⟩) n n) n (flat (ys.set k ⟨x0, x1, x2, x3, x4⟩)) ∧ Below w.heap.size w ((put5 wr w.heap.size (k * 5) ⟨x0, x1, x2, x3, x4⟩).alloc (.cells #[.int .i64 x0, .int .i64 x1, .string x2, .int .i64 x3, .int .i64 x4] 37))) :=
        ⟨(owns_put hown ⟨x0, x1, x2, x3, x4⟩ (show k < ys.length by omega)).alloc _, (below_put hbel (Nat.le_refl _) _).alloc (Nat.le_trans hs (by simp [put5, World.setCell])) _⟩
      have cs : ∀ j, j < 5 → ∃ v, wr.cell? ⟨w.heap.size, k * 5 + j, none⟩ = some v := fun j hj => by
        rw [hown.cellAt _ (by omega), List.getElem?_eq_getElem (by rw [flat_length]; omega)]
        exact ⟨_, rfl⟩
      obtain ⟨v0, c0⟩ := cs 0 (by omega)
      obtain ⟨v1, c1⟩ := cs 1 (by omega)
      obtain ⟨v2, c2⟩ := cs 2 (by omega)
      obtain ⟨v3, c3⟩ := cs 3 (by omega)
      obtain ⟨v4, c4⟩ := cs 4 (by omega)
      rw [Nat.add_zero] at c0
      have fz : ∀ j, wr.frozen? ⟨w.heap.size, j, none⟩ = false := fun j => hown.frozenAt j
      have hws : w.heap.size < wr.heap.size := lt_of_cell c0
      have HY : Hid (∀ j, j < k + 1 → (ys.set k ⟨x0, x1, x2, x3, x4⟩)[j]? = xs[j]?) := by
        intro j hj
        rw [List.getElem?_set]
        by_cases e : k = j
        · subst e; rw [if_pos rfl, if_pos (by omega), hxk]
        · rw [if_neg e]; exact hyx j (by omega)
      clear cs hown hbel hl hyx hxk hA
      go_wp2
      go_roundw
      case rel =>
        have H1 := H.out
        simp only [put5] at H1
        exact ⟨k + 1, _, by omega, by go_num, HY.out, H1.1, H1.2⟩
      case measure => simp [intOf]; omega
    · have he : ys = xs := by
        apply List.ext_getElem?
        intro j
        by_cases hj : j < k
        · exact hyx j hj
        · have := HN.out
          rw [List.getElem?_eq_none (by omega), List.getElem?_eq_none (by omega)]
      rw [he] at hown
      have HO : Hid (wr.ownsRow w.heap.size 30 5 (.slice (some ⟨w.heap.size, 0, none⟩) n n) n (flat xs)) := hown
      have HB : Hid (Below w.heap.size w wr) := hbel
      clear hown hbel hl he hyx HX HN HO1 HB1
      go_wp2
      go_ret
      exact ⟨rfl, HO.out, HB.out⟩
end Go.Proofs.Ybulkcfbs.items
