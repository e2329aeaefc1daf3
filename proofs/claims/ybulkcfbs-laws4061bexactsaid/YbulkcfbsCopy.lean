import Derived.Test.YbulkcfbsTrim
import Derived.Laws.CopyRow
namespace Go.Proofs.Ybulkcfbs.items
open Go.ChangeShapes Go.WideShapes Go.ChangeAt Go.RowKit
set_option linter.unusedVariables false
def zeroItem : Item := ⟨0, 0, ⟨#[]⟩, 0, 0⟩
theorem flat_replicate (n : Nat) : flat (List.replicate n zeroItem) = (madeCells (Value.agg #[.int .i64 0, .int .i64 0, .string ⟨#[]⟩, .int .i64 0, .int .i64 0]).cells (n * 5)).toList := by
  apply List.ext_getElem?
  intro j
  by_cases hj : j < n * 5
  · have h := flat_get (List.replicate n zeroItem) (j / 5) (j % 5) zeroItem (by rw [List.getElem?_replicate, if_pos (by omega)]) (by omega)
    rw [show j / 5 * 5 + j % 5 = j by omega] at h
    rw [h]
    simp [madeCells, hj, Value.cells]
    rcases (show j % 5 = 0 ∨ j % 5 = 1 ∨ j % 5 = 2 ∨ j % 5 = 3 ∨ j % 5 = 4 by omega) with h | h | h | h | h <;> rw [h] <;> rfl
  · rw [List.getElem?_eq_none (by rw [flat_length, List.length_replicate]; omega), List.getElem?_eq_none (by simp [madeCells]; omega)]
theorem run_copy5 (w : World) (g n cap c : Nat) (a : Addr) (cur : Array Value) (xs : List Item) (hg : w.heap[g]? = some (.cells cur 30 (0, 0))) (hn : n = xs.length)
    (hsrc : ∀ j v, (flat xs)[j]? = some v → w.cell? (a.add j) = some v) (hfit : n * 5 ≤ cur.size) :
    (Builtin.copy_ #[23, 23] 3 #[.slice (some ⟨g, 0, none⟩) n cap, .slice (some a) n c]).run Yba.prog w = .ok (.int .i64 n) (w.setRow g (flat xs ++ cur.toList.drop (n * 5)).toArray) := by
  have hl := run_loadCells_list (P := Yba.prog) w a (flat xs) hsrc
  have hst := run_storeCells_at Yba.prog g 0 30 (flat xs) 0 cur w hg (by rw [flat_length]; omega) (flat_oneCell xs)
  have hlen : (flat xs).length = n * 5 := by rw [flat_length, hn]
  obtain ⟨i0, hi, hz0, hz1, hz2⟩ := info_parts info30
  rw [hlen] at hl hst
  simp only [Nat.zero_add, List.take_zero, List.nil_append, Nat.add_zero] at hst
  simp [Builtin.copy_, run_underlying Yba.underlying23, Builtin.lenOf, Builtin.firstCells, sizeOf, typeInfo, hi, hz1, hl, hst, goInt]
theorem src_of_reads {w : World} {ad : Addr} {c : Nat} {xs : List Item} (hx : Reads w (some ad) c xs) : ∀ j u, (flat xs)[j]? = some u → w.cell? (ad.add j) = some u := by
  intro j u hj
  have hlt : j < xs.length * 5 := by
    rcases Nat.lt_or_ge j (xs.length * 5) with h' | h'
    · exact h'
    · rw [List.getElem?_eq_none (by rw [flat_length]; exact h')] at hj; cases hj
  obtain ⟨g, o, ha, hx'⟩ := hx.cells (by omega)
  obtain rfl : ad = ⟨g, o, none⟩ := by cases ha; rfl
  have hi2 : j / 5 < xs.length := by omega
  have hA := hx' (j / 5) xs[j / 5] (List.getElem?_eq_getElem hi2)
  have hg := flat_get xs (j / 5) (j % 5) xs[j / 5] (List.getElem?_eq_getElem hi2) (by omega)
  rw [show j / 5 * 5 + j % 5 = j by omega, hj] at hg
  rw [show (⟨g, o, none⟩ : Addr).add j = ⟨g, o + j, none⟩ by simp [Addr.add]]
  have e : o + j = o + j / 5 * 5 + j % 5 := by omega
  rw [e, hg]
  rcases (show j % 5 = 0 ∨ j % 5 = 1 ∨ j % 5 = 2 ∨ j % 5 = 3 ∨ j % 5 = 4 by omega) with h | h | h | h | h <;> rw [h]
  · exact hA.c0
  · exact hA.c1
  · exact hA.c2
  · exact hA.c3
  · exact hA.c4
/-- copy(snap, in): the destination a row of the call's own. -/
theorem copy_owned (w : World) (base g n c : Nat) (ad : Addr) (xs : List Item) {ys : List Value} (hown : w.ownsRow base 30 5 (.slice (some ⟨g, 0, none⟩) n n) n ys) (hn : n = xs.length) (hsrc : ∀ j v, (flat xs)[j]? = some v → w.cell? (ad.add j) = some v) :
    ∃ w', (Builtin.copy_ #[23, 23] 3 #[.slice (some ⟨g, 0, none⟩) n n, .slice (some ad) n c]).run Yba.prog w = .ok (.int .i64 n) w' ∧ w'.ownsRow base 30 5 (.slice (some ⟨g, 0, none⟩) n n) n (flat xs) ∧ w.grownBy w' (some g) := by
  rcases hown.2 with ⟨h, _⟩ | ⟨g', cap, cur, hv, hb, hg, hnc, hcm, hcs, htake⟩
  · simp at h
  · simp at hv
    obtain ⟨rfl, rfl⟩ := hv
    refine ⟨_, run_copy5 w g n n c ad cur xs hg hn hsrc (by omega), ⟨by rw [flat_length, hn], .inr ⟨g, n, _, rfl, hb, setRow_heap w g cur _ 30 _ hg, Nat.le_refl _, hcm, ?_, ?_⟩⟩, ⟨rfl, rfl, rfl, by simp [World.setRow], fun k _ hne => setRow_other w g k _ (by intro e; exact hne (by rw [e]))⟩⟩
    · simp [flat_length, hn]; omega
    · simp [flat_length, hn]
end Go.Proofs.Ybulkcfbs.items
