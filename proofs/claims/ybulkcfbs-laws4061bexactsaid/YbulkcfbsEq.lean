import Derived.Test.YbulkcfbsItems
namespace Go.Proofs.Ybulkcfbs.items
open Go.ChangeShapes Go.WideShapes Go.ChangeAt Go.RowKit
set_option linter.unusedVariables false
theorem get_some {α : Type} {xs : List α} {k : Nat} (h : k < xs.length) : ∃ x, xs[k]? = some x := ⟨xs[k], List.getElem?_eq_getElem h⟩
set_option maxHeartbeats 800000 in
theorem eq_core (n : Nat) (xs : List Item) (g o c h p d : Nat) (w : World) (hn : n = xs.length) (hm : n ≤ 9223372036854775807)
    (hx : ∀ i x, xs[i]? = some x → At w g (o + i * 5) x) (hy : ∀ i x, xs[i]? = some x → At w h (p + i * 5) x) :
    Calls Yba.prog 7 #[.slice (some ⟨g, o, none⟩) n c, .slice (some ⟨h, p, none⟩) n d] w fun e w' => e = .returned (.bool true) ∧ ∃ q, w' = w.drewN q := by
  have HX : Hid (∀ i x, xs[i]? = some x → At w g (o + i * 5) x) := hx
  have HY : Hid (∀ i x, xs[i]? = some x → At w h (p + i * 5) x) := hy
  have HN : Hid (n = xs.length) := hn
  clear hx hy hn
  go_enter Yba.func7, Yba.ntmps7
  go_wp2
  go_loopw [5] (fun i wr => ∃ k q : Nat, k ≤ n ∧ i = .int .i64 k ∧ wr = w.drewN q) (fun i _ => n - (intOf i).toNat)
  case atStart => exact ⟨0, 0, by omega, rfl, rfl⟩
  case round =>
    obtain ⟨k, q, hk, rfl, rfl⟩ := hrel
    by_cases hlt : k < n
    · obtain ⟨x, hx⟩ := get_some (show k < xs.length by rw [← HN.out]; exact hlt)
      obtain ⟨c0, c1, c2, c3, c4⟩ := HX.out k x hx
      obtain ⟨d0, d1, d2, d3, d4⟩ := HY.out k x hx
      obtain ⟨x0, x1, x2, x3, x4⟩ := x
      simp only at c0 c1 c2 c3 c4 d0 d1 d2 d3 d4
      clear hx
      go_wp2
      go_quiet (fail)
      go_wp2
      go_roundw
      case rel => exact ⟨k + 1, _, by omega, by go_num, rfl⟩
      case measure => simp [intOf]; omega
    · go_wp2
      go_ret
      exact ⟨rfl, q, rfl⟩
theorem eq_any (xs : List Item) (a b : Option Addr) (c d : Nat) (w : World) (hx : Reads w a c xs) (hy : Reads w b d xs) :
    Calls Yba.prog 7 #[.slice a xs.length c, .slice b xs.length d] w fun e w' => e = .returned (.bool true) ∧ ∃ q, w' = w.drewN q := by
  by_cases h0 : 0 < xs.length
  · obtain ⟨g, o, rfl, h1⟩ := hx.cells h0
    obtain ⟨h, p, rfl, h2⟩ := hy.cells h0
    exact eq_core xs.length xs g o c h p d w rfl (Nat.le_trans hx.cap hx.max) h1 h2
  · rw [show xs.length = 0 by omega]
    go_enter Yba.func7, Yba.ntmps7
    go_wp2
    refine wp_loop_rounds 1 ?_
    rw [rounds_succ]
    go_wp2
    go_ret
    exact ⟨rfl, 0, rfl⟩
end Go.Proofs.Ybulkcfbs.items
