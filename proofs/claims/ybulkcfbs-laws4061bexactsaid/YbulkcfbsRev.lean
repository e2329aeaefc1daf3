import Derived.Test.YbulkcfbsItems
namespace Go.Proofs.Ybulkcfbs.items
open Go.ChangeShapes Go.WideShapes Go.ChangeAt Go.RowKit
set_option linter.unusedVariables false
theorem info30 : (Yba.prog.info? 30).map (fun i => (i.zero, i.size, i.bytes)) = some (some (.agg #[.int .i64 0, .int .i64 0, .string ⟨#[]⟩, .int .i64 0, .int .i64 0]), 5, 48) := by kernel_rfl
set_option maxHeartbeats 800000 in
theorem clone_some (xs : List Item) (ad : Addr) (c : Nat) (w : World) (hlen : xs.length ≤ 1024) (hx : Reads w (some ad) c xs) :
    Calls Yba.prog 9 #[.slice (some ad) xs.length c] w fun e w' => ∃ v, e = .returned v ∧ w'.ownsRow w.heap.size 30 5 v xs.length (flat xs) ∧ v ≠ .slice none 0 0 ∧ Below w.heap.size w w' := by
  obtain ⟨i0, hi, hz0, hz1, hz2⟩ := info_parts info30
  have hnews : ∀ j u, (flat xs)[j]? = some u → (w.alloc (.cells #[] 30)).cell? (ad.add j) = some u := by
    intro j u hj
    have hlt : j < xs.length * 5 := by
      rcases Nat.lt_or_ge j (xs.length * 5) with h' | h'
      · exact h'
      · rw [List.getElem?_eq_none (by rw [flat_length]; exact h')] at hj; cases hj
    obtain ⟨g, o, ha, hx'⟩ := hx.cells (by omega)
    obtain rfl : ad = ⟨g, o, none⟩ := by cases ha; rfl
    have hi2 : j / 5 < xs.length := by omega
    have hA := hx' (j / 5) xs[j / 5] (List.getElem?_eq_getElem hi2)
    have hg := flat_get xs (j / 5) (j % 5) xs[j / 5] (List.getElem?_eq_getElem hi2) (by omega)
    rw [show j / 5 * 5 + j % 5 = j by omega, hj] at hg
    have hc : w.cell? ⟨g, o + j, none⟩ = some u := by
      have e : o + j = o + j / 5 * 5 + j % 5 := by omega
      rw [e, hg]
      rcases (show j % 5 = 0 ∨ j % 5 = 1 ∨ j % 5 = 2 ∨ j % 5 = 3 ∨ j % 5 = 4 by omega) with h | h | h | h | h <;> rw [h]
      · exact hA.c0
      · exact hA.c1
      · exact hA.c2
      · exact hA.c3
      · exact hA.c4
    rw [show (⟨g, o, none⟩ : Addr).add j = ⟨g, o + j, none⟩ by simp [Addr.add], World.cell?_alloc_past _ _ _ (lt_of_cell hc)]
    exact hc
  have HN : Hid (∀ j u, (flat xs)[j]? = some u → (w.alloc (.cells #[] 30)).cell? (ad.add j) = some u) := hnews
  have hown0 : (w.alloc (.cells #[] 30)).ownsRow w.heap.size 30 5 (.slice (some ⟨w.heap.size, 0, none⟩) 0 0) 0 [] := World.ownsRow_lit w #[] 0 (Nat.le_refl _) (by decide) rfl
  have HO : Hid ((w.alloc (.cells #[] 30)).ownsRow w.heap.size 30 5 (.slice (some ⟨w.heap.size, 0, none⟩) 0 0) 0 []) := hown0
  clear hnews hown0 hx
  have hsn := fun (w : World) => Lib.run_eql_slice_nil (P := Yba.prog) w 23 30 (some ad) xs.length c 0 0 Yba.underlying23
  go_enter Yba.func9, Yba.ntmps9
  go_wp2_with (at_builtin; refine wpList_append_own _ rfl _ _ 23 rfl w.heap.size 30 i0 (.agg #[.int .i64 0, .int .i64 0, .string ⟨#[]⟩, .int .i64 0, .int .i64 0]) 5 48 Yba.underlying23 hi hz0 hz1 hz2 rfl (by decide) (.slice (some ⟨w.heap.size, 0, none⟩) 0 0) 0 [] rfl HO.out ad xs.length c (flat xs) rfl (flat_length xs) HN.out (flat_oneCell xs) (by unfold maxLen; omega) (by omega) (by simp) ?_; intro v' w1 hown' hgrow hnil)
  go_ret
  rw [Nat.zero_add, List.nil_append] at hown'
  refine ⟨v', rfl, hown', fun e => by have := (hnil.1 e).1; simp at this, ?_⟩
  exact ((Below.refl _ _).alloc (Nat.le_refl _) _).grown hgrow (by simp) (fun k e => by simp [Value.ownBlock] at e; omega)
theorem clone_nil (w : World) :
    Calls Yba.prog 9 #[.slice none 0 0] w fun e w' => e = .returned (.slice none 0 0) ∧ w' = w := by
  have hsn := fun (w : World) => Lib.run_eql_slice_nil (P := Yba.prog) w 23 30 none 0 0 0 0 Yba.underlying23
  go_enter Yba.func9, Yba.ntmps9
  go_wp2
  go_ret
  exact ⟨rfl, rfl⟩
/-- The items after k exchanges from both ends. -/
structure Swapped (xs ys : List Item) (k : Nat) : Prop where
  len : ys.length = xs.length
  get : ∀ i, i < xs.length → ys[i]? = if i < k ∨ xs.length ≤ i + k then xs[xs.length - 1 - i]? else xs[i]?
theorem Swapped.start (xs : List Item) : Swapped xs xs 0 := ⟨rfl, fun i hi => by rw [if_neg (by omega)]⟩
theorem Swapped.step {xs ys : List Item} {k : Nat} (h : Swapped xs ys k) (hk : k + k + 1 < xs.length) {x y : Item} (hx : ys[k]? = some x) (hy : ys[xs.length - 1 - k]? = some y) :
    Swapped xs ((ys.set k y).set (xs.length - 1 - k) x) (k + 1) := by
  have ex := h.get k (by omega)
  rw [if_neg (by omega), hx] at ex
  have ey := h.get (xs.length - 1 - k) (by omega)
  rw [if_neg (by omega), hy] at ey
  refine ⟨by simp [h.len], fun i hi => ?_⟩
  rw [List.getElem?_set, List.length_set, h.len, List.getElem?_set, h.len]
  by_cases h1 : xs.length - 1 - k = i
  · rw [if_pos h1, if_pos (by omega), if_pos (by omega), show xs.length - 1 - i = k by omega, ex]
  · rw [if_neg h1]
    by_cases h2 : k = i
    · subst h2
      rw [if_pos rfl, if_pos (by omega), if_pos (by omega), ey]
    · rw [if_neg h2, h.get i hi]
      by_cases h3 : i < k ∨ xs.length ≤ i + k
      · rw [if_pos h3, if_pos (by omega)]
      · rw [if_neg h3, if_neg (by omega)]
theorem Swapped.done {xs ys : List Item} {k : Nat} (h : Swapped xs ys k) (hk : xs.length ≤ k + k + 1) : ys = xs.reverse := by
  apply List.ext_getElem?
  intro i
  by_cases hi : i < xs.length
  · rw [h.get i hi, List.getElem?_reverse hi]
    split
    · rfl
    · rw [show xs.length - 1 - i = i by omega]
  · rw [List.getElem?_eq_none (by rw [h.len]; omega), List.getElem?_eq_none (by rw [List.length_reverse]; omega)]
theorem owns_drew {w : World} {base : Nat} {e : TypeId} {size : Nat} {v : Value} {n : Nat} {xs : List Value} (h : w.ownsRow base e size v n xs) : w.drew.ownsRow base e size v n xs := h
set_option maxHeartbeats 800000 in
theorem reverse_core (xs : List Item) (n base g c : Nat) (w : World) (hn : n = xs.length) (hpos : 0 < n) (hm : n ≤ 1024) (hb : base ≤ g) (hown : w.ownsRow base 30 5 (.slice (some ⟨g, 0, none⟩) n c) n (flat xs)) :
    Calls Yba.prog 10 #[.slice (some ⟨g, 0, none⟩) n c] w fun e w' => e = .returned (.tuple #[]) ∧ w'.ownsRow base 30 5 (.slice (some ⟨g, 0, none⟩) n c) n (flat xs.reverse) ∧ Below base w w' := by
  have HN : Hid (n = xs.length) := hn
  clear hn
  have HO : Hid (w.ownsRow base 30 5 (.slice (some ⟨g, 0, none⟩) n c) n (flat xs)) := hown
  clear hown
  go_enter Yba.func10, Yba.ntmps10
  go_wp2
  go_loopw [2, 3] (fun i j wr => ∃ (k : Nat) (ys : List Item), k ≤ n ∧ i = .int .i64 k ∧ j = .int .i64 ((n : Int) - 1 - k) ∧ Swapped xs ys k ∧ wr.ownsRow base 30 5 (.slice (some ⟨g, 0, none⟩) n c) n (flat ys) ∧ Below base w wr) (fun i _ _ => n - (intOf i).toNat)
  case atStart => exact ⟨0, xs, by omega, rfl, by go_num, Swapped.start xs, HO.out, Below.refl _ _⟩
  case round =>
    obtain ⟨k, ys, hk, rfl, rfl, hsw, hown, hbel⟩ := hrel
    by_cases hlt : k + k + 1 < n
    · have hl : ys.length = n := by rw [hsw.len, ← HN.out]
      obtain ⟨x, hx⟩ : ∃ x, ys[k]? = some x := ⟨ys[k], List.getElem?_eq_getElem (by omega)⟩
      obtain ⟨y, hy⟩ : ∃ y, ys[n - 1 - k]? = some y := ⟨ys[n - 1 - k], List.getElem?_eq_getElem (by omega)⟩
      have H : Hid (Swapped xs ((ys.set k y).set (n - 1 - k) x) (k + 1) ∧ (put5 (put5 wr g (k * 5) y) g ((n - 1 - k) * 5) x).ownsRow base 30 5 (.slice (some ⟨g, 0, none⟩) n c) n (flat ((ys.set k y).set (n - 1 - k) x)) ∧ Below base w (put5 (put5 wr g (k * 5) y) g ((n - 1 - k) * 5) x)) := by
        refine ⟨?_, owns_put (owns_put hown y (by omega)) x (by simp; omega), below_put (below_put hbel hb y) hb x⟩
        have := hsw.step (x := x) (y := y) (by rw [← HN.out]; exact hlt) hx (by rw [← HN.out]; exact hy)
        rw [← HN.out] at this
        exact this
      obtain ⟨a', c', hv, -, hr⟩ := reads_of_owns hown
      obtain ⟨g', o', ha', hcells⟩ := hr.cells (by omega)
      simp at hv
      obtain ⟨rfl, rfl⟩ := hv
      simp at ha'
      obtain ⟨rfl, rfl⟩ := ha'
      obtain ⟨c0, c1, c2, c3, c4⟩ := hcells k x hx
      obtain ⟨d0, d1, d2, d3, d4⟩ := hcells (n - 1 - k) y hy
      simp only [Nat.zero_add] at c0 c1 c2 c3 c4 d0 d1 d2 d3 d4
      have fz : ∀ j, wr.frozen? ⟨g, j, none⟩ = false := fun j => hown.frozenAt j
      obtain ⟨x0, x1, x2, x3, x4⟩ := x
      obtain ⟨y0, y1, y2, y3, y4⟩ := y
      simp only at c0 c1 c2 c3 c4 d0 d1 d2 d3 d4
      clear hx hy hcells hr hown hsw hbel hl
      go_wp2
      go_region
      go_wp2
      go_roundw
      case rel =>
        have H1 := H.out
        simp only [put5] at H1
        refine ⟨k + 1, _, by omega, by go_num, by go_num, H1.1, ?_, ?_⟩
        · exact owns_drew H1.2.1
        · exact Below.drew H1.2.2
      case measure => simp [intOf]; omega
    · have he : ys = xs.reverse := hsw.done (by rw [← HN.out]; omega)
      go_wp2
      go_end0
      exact ⟨rfl, by rw [← he]; exact hown, hbel⟩
theorem reverse_any (xs : List Item) (n base : Nat) (v : Value) (w : World) (hm : n ≤ 1024) (hown : w.ownsRow base 30 5 v n (flat xs)) :
    Calls Yba.prog 10 #[v] w fun e w' => e = .returned (.tuple #[]) ∧ w'.ownsRow base 30 5 v n (flat xs.reverse) ∧ Below base w w' := by
  have hn : n = xs.length := by have := hown.1; rw [flat_length] at this; omega
  by_cases h0 : 0 < n
  · rcases hown.2 with ⟨_, h⟩ | ⟨g, cap, cur, hv, hb, _⟩
    · omega
    · subst hv
      exact reverse_core xs n base g cap w hn h0 hm hb hown
  · obtain rfl : xs = [] := List.length_eq_zero_iff.1 (by omega)
    obtain rfl : n = 0 := by omega
    obtain ⟨a, c, rfl, -, -⟩ := reads_of_owns hown
    clear hn h0
    have HO : Hid (w.ownsRow base 30 5 (.slice a 0 c) 0 (flat [])) := hown
    clear hown
    go_enter Yba.func10, Yba.ntmps10
    go_wp2
    refine wp_loop_rounds 1 ?_
    rw [rounds_succ]
    go_wp2
    go_end0
    exact ⟨rfl, HO.out, Below.refl _ _⟩
/-- 'reversed': a fresh row, the items in the other order. -/
theorem reversed_any (xs : List Item) (a : Option Addr) (c : Nat) (w : World) (hnil : a = none → xs.length = 0 ∧ c = 0) (hm : xs.length ≤ 1024) (hx : Reads w a c xs) :
    Calls Yba.prog 6 #[.slice a xs.length c] w fun e w' => ∃ v, e = .returned v ∧ w'.ownsRow w.heap.size 30 5 v xs.length (flat xs.reverse) ∧ (v = .slice none 0 0 ↔ a = none) ∧ Below w.heap.size w w' := by
  cases a with
  | none =>
    obtain ⟨h0, rfl⟩ := hnil rfl
    rw [h0]
    obtain rfl : xs = [] := List.length_eq_zero_iff.1 h0
    go_enter Yba.func6, Yba.ntmps6
    go_wp2_with (first | (go_at_call 9; refine (clone_nil _).mono ?_; rintro e w' ⟨rfl, hw⟩; obtain rfl := hw.symm) | (go_at_call 10; refine (reverse_any [] 0 w.heap.size _ _ (by omega) (World.ownsRow_nil _ _ _ _)).mono ?_; rintro e w' ⟨rfl, ho, hb⟩))
    go_ret
    exact ⟨_, rfl, ho, by simp, hb⟩
  | some ad =>
    go_enter Yba.func6, Yba.ntmps6
    go_wp2_with fail
    refine (clone_some xs ad c w hm hx).mono ?_
    rintro e w1 ⟨v, rfl, ho, hne, hb⟩
    have HO : Hid (w1.ownsRow w.heap.size 30 5 v xs.length (flat xs)) := ho
    have HB : Hid (Below w.heap.size w w1) := hb
    have HE : Hid (v ≠ .slice none 0 0) := hne
    clear ho hb hne
    go_wp2_with fail
    refine (reverse_any xs _ _ v w1 hm HO.out).mono ?_
    rintro e w2 ⟨rfl, ho, hb⟩
    go_wp2
    go_ret
    exact ⟨v, rfl, ho, by simp [HE.out], HB.out.trans hb⟩
end Go.Proofs.Ybulkcfbs.items
