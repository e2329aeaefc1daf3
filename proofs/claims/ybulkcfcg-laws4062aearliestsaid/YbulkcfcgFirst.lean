import Derived.Test.YbulkcfcgMaps
namespace Go.Proofs.Ybulkcfcg.pm
open Go.ChangeShapes Go.WideShapes Go.ChangeAt Go.RowKit
open Go.ChangeMaps (setBlock)
open Go.MuLone
set_option linter.unusedVariables false
/-- v is the least of those of l that are not 0; 0 where none is. -/
def Least (l : List Int) (v : Int) : Prop := (v = 0 ∧ ∀ c ∈ l, c = 0) ∨ (v ∈ l ∧ v ≠ 0 ∧ ∀ c ∈ l, c ≠ 0 → v ≤ c)
theorem Least.nil : Least [] 0 := .inl ⟨rfl, by simp⟩
theorem Least.skip {l : List Int} {v c : Int} (h : Least l v) (hc : c = 0 ∨ (v ≠ 0 ∧ v ≤ c)) : Least (l ++ [c]) v := by
  rcases h with ⟨rfl, h⟩ | ⟨h1, h2, h3⟩
  · rcases hc with rfl | ⟨h', _⟩
    · exact .inl ⟨rfl, fun x hx => by simp at hx; rcases hx with hx | hx; exact h x hx; exact hx⟩
    · exact absurd rfl h'
  · refine .inr ⟨by simp [h1], h2, fun x hx hx0 => ?_⟩
    simp at hx
    rcases hx with hx | rfl
    · exact h3 x hx hx0
    · rcases hc with rfl | ⟨_, h'⟩
      · exact absurd rfl hx0
      · exact h'
theorem Least.take {l : List Int} {v c : Int} (h : Least l v) (hc : c ≠ 0) (hv : v = 0 ∨ c < v) : Least (l ++ [c]) c := by
  refine .inr ⟨by simp, hc, fun x hx hx0 => ?_⟩
  simp at hx
  rcases hx with hx | rfl
  · rcases h with ⟨rfl, h⟩ | ⟨h1, h2, h3⟩
    · exact absurd (h x hx) hx0
    · rcases hv with rfl | hv
      · exact absurd rfl h2
      · have := h3 x hx hx0; omega
  · exact Int.le_refl _
theorem Least.unique {l l' : List Int} {v v' : Int} (h : Least l v) (h' : Least l' v') (e : ∀ c, c ∈ l ↔ c ∈ l') : v = v' := by
  rcases h with ⟨rfl, h⟩ | ⟨h1, h2, h3⟩ <;> rcases h' with ⟨rfl, h'⟩ | ⟨h1', h2', h3'⟩
  · rfl
  · exact absurd (h v' ((e v').2 h1')) h2'
  · exact absurd (h' v ((e v).1 h1)) h2
  · have a := h3 v' ((e v').2 h1') h2'
    have b := h3' v ((e v).1 h1) h2
    omega
theorem mem_entries {f : Nat → Nat} {n : Nat} {e : MapEntry} : e ∈ entries f n ↔ ∃ i, i < n ∧ e = ent (f i) i := by
  simp only [entries, List.mem_map, List.mem_range]
  exact ⟨fun ⟨i, h, e⟩ => ⟨i, h, e.symm⟩, fun ⟨i, h, e⟩ => ⟨i, h, e.symm⟩⟩
theorem born_nodup (f : Nat → Nat) (n : Nat) : ((entries f n).map (·.born)).Nodup := by
  simp only [entries, List.map_map]
  have : (List.map ((fun x : MapEntry => x.born) ∘ fun i => ent (f i) i) (List.range n)) = List.range n := by
    rw [show ((fun x : MapEntry => x.born) ∘ fun i => ent (f i) i) = id by funext i; rfl]
    simp
  rw [this]
  exact List.nodup_range
theorem mem_left {f : Nat → Nat} {n : Nat} {seen : Array Nat} {e : MapEntry} : e ∈ (leftOf (entries f n).toArray seen).toList ↔ ∃ i, i < n ∧ i ∉ seen.toList ∧ e = ent (f i) i := by
  unfold leftOf
  simp only [Array.toList_filter, List.mem_filter, mem_entries]
  constructor
  · rintro ⟨⟨i, hi, rfl⟩, hs⟩
    exact ⟨i, hi, by simpa [ent] using hs, rfl⟩
  · rintro ⟨i, hi, hs, rfl⟩
    exact ⟨⟨i, hi, rfl⟩, by simpa [ent] using hs⟩
theorem left_less {f : Nat → Nat} {n : Nat} {seen : Array Nat} {i : Nat} (hi : i < n) (hs : i ∉ seen.toList) : (leftOf (entries f n).toArray (seen.push i)).size < (leftOf (entries f n).toArray seen).size := by
  have e : (leftOf (entries f n).toArray (seen.push i)).toList = ((leftOf (entries f n).toArray seen).toList).filter (fun e => !(e.born == i)) := by
    unfold leftOf
    simp only [Array.toList_filter, List.filter_filter]
    apply List.filter_congr
    intro x _
    simp [Bool.and_comm]
    rfl
  have h : ((leftOf (entries f n).toArray (seen.push i)).toList).length < ((leftOf (entries f n).toArray seen).toList).length := by
    rw [e, List.length_filter_lt_length_iff_exists]
    exact ⟨ent (f i) i, mem_left.2 ⟨i, hi, hs, rfl⟩, by simp [ent]⟩
  simpa using h
theorem restore {w w' : World} {B : Nat} {c : Array Value} (hB : w.heap[B]? = some (.cells c 52 (0, 0))) (h33 : c[33]? = some (.int .i32 0)) (hb : Below w.heap.size (w.setCell ⟨B, 33, none⟩ (.int .i32 1)) w') : Below w.heap.size w (w'.setCell ⟨B, 33, none⟩ (.int .i32 0)) := by
  have hs := hb.size
  refine ⟨hb.os, hb.tape, hb.output, by simpa [World.setCell] using hs, fun k hk => ?_⟩
  by_cases e : k = B
  · subst e
    have h1 := hb.block k hk
    have h2 : (w.setCell ⟨k, 33, none⟩ (.int .i32 1)).heap[k]? = some (.cells (c.setIfInBounds 33 (.int .i32 1)) 52 (0, 0)) := by
      simp only [World.setCell, Array.getElem?_modify, hB]
      simp
    have h3 : (w'.setCell ⟨k, 33, none⟩ (.int .i32 0)).heap[k]? = some (.cells ((c.setIfInBounds 33 (.int .i32 1)).setIfInBounds 33 (.int .i32 0)) 52 (0, 0)) := by
      simp only [World.setCell, Array.getElem?_modify]
      rw [h1, h2]
      simp
    rw [h3, hB]
    congr 2
    apply Array.ext_getElem?
    intro j
    simp only [Array.getElem?_setIfInBounds, Array.size_setIfInBounds]
    have hlt : 33 < c.size := by
      rcases Nat.lt_or_ge 33 c.size with h | h
      · exact h
      · rw [Array.getElem?_eq_none h] at h33; cases h33
    by_cases ej : 33 = j
    · subst ej
      rw [Array.getElem?_eq_getElem hlt] at h33
      simp only [Option.some.injEq] at h33
      simp [hlt, h33]
    · simp [ej]
  · rw [Below.heap_setCell _ _ _ _ e, hb.block k hk, Below.heap_setCell _ _ _ _ e]
set_option maxHeartbeats 1600000 in
theorem firstMissed_some (B m n : Nat) (f : Nat → Nat) (z : Nat → Int) (c : Array Value) (w : World) (hB : w.heap[B]? = some (.cells c 52 (0, 0))) (g17 : c[17]? = some (.map (some m))) (g33 : c[33]? = some (.int .i32 0))
    (hm : w.heap[m]? = some (.map (entries f n).toArray n)) (hz : ∀ i, i < n → f i ≠ B ∧ w.cell? ⟨f i, 3, none⟩ = some (.int .u64 (z i))) :
    Calls Yba.prog 4 #[.pointer (some ⟨B, 0, none⟩)] w fun e w' => ∃ v, e = .returned (.int .u64 v) ∧ Least ((List.range n).map z) v ∧ Below w.heap.size w w' := by
  have hBm : ¬ m = B := by intro e; subst e; rw [hm] at hB; cases hB
  have h17 : w.cell? ⟨B, 17, none⟩ = some (.map (some m)) := by simp [World.cell?, hB, g17]
  have h33 : w.cell? ⟨B, 33, none⟩ = some (.int .i32 0) := by simp [World.cell?, hB, g33]
  have f33 : w.frozen? ⟨B, 33, none⟩ = false := by simp [World.frozen?, hB]
  obtain ⟨W0, hW0⟩ : ∃ W0, W0 = w.setCell ⟨B, 33, none⟩ (.int .i32 1) := ⟨_, rfl⟩
  have hs0 : W0.heap.size = w.heap.size := by rw [hW0]; simp [World.setCell]
  have hm0 : W0.heap[m]? = some (.map (entries f n).toArray n) := by rw [hW0, Below.heap_setCell _ _ _ _ hBm]; exact hm
  have hrg : (Instr.range 37 (.map (some m))).run Yba.prog (w.setCell ⟨B, 33, none⟩ (.int .i32 1)) = .ok (.pointer (some ⟨w.heap.size, 0, none⟩)) ((w.setCell ⟨B, 33, none⟩ (.int .i32 1)).alloc (.mapIter (some m) n #[] n)) := by
    have := run_range_map (P := Yba.prog) W0 37 24 27 m (entries f n).toArray n Yba.underlying37 hm0
    rw [hs0, hW0] at this
    exact this
  have hm_lt : m < w.heap.size := by
    rcases Nat.lt_or_ge m w.heap.size with h | h
    · exact h
    · rw [Array.getElem?_eq_none h] at hm; cases hm
  have hB_lt : B < w.heap.size := by
    rcases Nat.lt_or_ge B w.heap.size with h | h
    · exact h
    · rw [Array.getElem?_eq_none h] at hB; cases hB
  have HB : Hid (∀ w', Below w.heap.size W0 w' → Below w.heap.size w (w'.setCell ⟨B, 33, none⟩ (.int .i32 0))) := fun w' h => restore hB g33 (by rw [← hW0]; exact h)
  have HC : Hid (∀ w', Below w.heap.size W0 w' → (w'.cell? ⟨B, 33, none⟩ = some (.int .i32 1) ∧ w'.frozen? ⟨B, 33, none⟩ = false) ∧ w'.heap[m]? = some (.map (entries f n).toArray n) ∧ ∀ i, i < n → w'.cell? ⟨f i, 3, none⟩ = some (.int .u64 (z i))) := by
    intro w' h
    refine ⟨⟨?_, ?_⟩, (h.block m hm_lt).trans hm0, fun i hi => ?_⟩
    · rw [h.cell (p := ⟨B, 33, none⟩) hB_lt, hW0]
      exact World.cell?_setCell_same w ⟨B, 33, none⟩ _ h33
    · rw [h.frozen (p := ⟨B, 33, none⟩) hB_lt, hW0, World.frozen?_setCell]
      exact f33
    · have hc := (hz i hi).2
      have hlt : f i < w.heap.size := by
        rcases Nat.lt_or_ge (f i) w.heap.size with h | h
        · exact h
        · simp [World.cell?, Array.getElem?_eq_none h] at hc
      rw [h.cell (p := ⟨f i, 3, none⟩) hlt, hW0]
      rw [World.cell?_of_block (w := w) (Below.heap_setCell _ _ _ _ (hz i hi).1)]
      exact hc
  have HS : Hid (Below w.heap.size W0 (W0.alloc (.mapIter (some m) n #[] n)) ∧ (W0.alloc (.mapIter (some m) n #[] n)).heap[w.heap.size]? = some (.mapIter (some m) n #[] n) ∧ (W0.alloc (.mapIter (some m) n #[] n)).heap.size = w.heap.size + 1) := by
    refine ⟨(Below.refl _ _).alloc (by omega) _, ?_, by simp [hs0]⟩
    show (W0.heap.push _)[w.heap.size]? = _
    rw [← hs0]
    simp
  clear hm hz hB g17 g33 hs0 hm0 hBm
  go_enter_defers Yba.func4, Yba.ntmps4
  go_wp2_with (go_at_call 6; refine (lock_free Yba.muLib ⟨B, 33, none⟩ _ h33 f33).mono ?_; rintro e w' ⟨rfl, rfl⟩)
  rw [← hW0]
  clear hrg h17 h33 f33
  go_loopg [3] (leftOf (entries f n).toArray #[]).size (fun k fst wr => ∃ (seen : Array Nat) (v : Int), fst = .int .u64 v ∧ k = (leftOf (entries f n).toArray seen).size ∧ (∀ i ∈ seen.toList, i < n) ∧ Least (seen.toList.map z) v ∧ wr.heap[w.heap.size]? = some (.mapIter (some m) n seen n) ∧ wr.heap.size = w.heap.size + 1 ∧ Below w.heap.size W0 wr)
  case atStart => exact ⟨#[], 0, rfl, rfl, by simp, Least.nil, HS.out.2.1, HS.out.2.2, HS.out.1⟩
  case round =>
    obtain ⟨seen, v, rfl, rfl, hsn, hL, hr, hsz, hbel⟩ := hrel
    clear HS hW0
    have hc := HC.out wr hbel
    rcases run_next_at (P := Yba.prog) wr 0 w.heap.size m n n seen (entries f n).toArray n hr hc.2.1 (fun x hx => by obtain ⟨i, hi, rfl⟩ := mem_entries.1 hx; exact hi) (Nat.le_refl _) with ⟨h0, hrun⟩ | ⟨e, he, w1, hw1, hrun⟩
    · have HL : Hid (Least ((List.range n).map z) v) := by
        have hall : ∀ i, i < n → i ∈ seen.toList := fun i hi => by
          rcases Classical.em (i ∈ seen.toList) with h | h
          · exact h
          · have := (mem_left (f := f) (n := n) (seen := seen) (e := ent (f i) i)).2 ⟨i, hi, h, rfl⟩
            rw [Array.size_eq_zero_iff.1 h0] at this
            simp at this
        rcases hL with ⟨rfl, h⟩ | ⟨h1, h2, h3⟩
        · refine .inl ⟨rfl, fun c hc => ?_⟩
          simp only [List.mem_map, List.mem_range] at hc
          obtain ⟨i, hi, rfl⟩ := hc
          exact h _ (List.mem_map.2 ⟨i, hall i hi, rfl⟩)
        · refine .inr ⟨?_, h2, fun c hc hc0 => ?_⟩
          · obtain ⟨i, hi, rfl⟩ := List.mem_map.1 h1
            exact List.mem_map.2 ⟨i, List.mem_range.2 (hsn i hi), rfl⟩
          · simp only [List.mem_map, List.mem_range] at hc
            obtain ⟨i, hi, rfl⟩ := hc
            exact h3 _ (List.mem_map.2 ⟨i, hall i hi, rfl⟩) hc0
      have HW : Hid ((wr.cell? ⟨B, 33, none⟩ = some (.int .i32 1) ∧ wr.frozen? ⟨B, 33, none⟩ = false) ∧ Below w.heap.size w (wr.setCell ⟨B, 33, none⟩ (.int .i32 0))) := ⟨hc.1, HB.out wr hbel⟩
      clear hc hr hsz hbel hL hsn h0 HB HC
      go_wp2
      refine leaves_cons (f := 7) (args := #[.pointer (some ⟨B, 33, none⟩)]) (by simp) (by simp [go_sem]) ?_
      refine (unlock_deferred Yba.muLib ⟨B, 33, none⟩ .returning _ HW.out.1.1 HW.out.1.2).mono ?_
      rintro e u' w'' ⟨rfl, rfl, rfl⟩
      exact ⟨_, results_tmp rfl _ _ _, v, rfl, HL.out, HW.out.2⟩
    · obtain ⟨i, hi, his, rfl⟩ := mem_left.1 he
      obtain ⟨w2, hw2⟩ : ∃ w2, w2 = setBlock w1 w.heap.size (.mapIter (some m) n (seen.push i) n) := ⟨_, rfl⟩
      have hrun' : (Instr.next (.pointer (some ⟨w.heap.size, 0, none⟩)) false 0).run Yba.prog wr = .ok (.tuple #[.bool true, ptr (f i), .agg #[]]) w2 := by rw [hw2]; exact hrun
      have hheap : w1.heap = wr.heap := by rcases hw1 with rfl | rfl <;> rfl
      have hr2 : w2.heap[w.heap.size]? = some (.mapIter (some m) n (seen.push i) n) := by
        rw [hw2]
        show (w1.heap.setIfInBounds _ _)[_]? = _
        rw [hheap, Array.getElem?_setIfInBounds, if_pos rfl, if_pos (by omega)]
      have hsz2 : w2.heap.size = w.heap.size + 1 := by
        rw [hw2]
        show (w1.heap.setIfInBounds _ _).size = _
        rw [hheap, Array.size_setIfInBounds, hsz]
      have hbel2 : Below w.heap.size W0 w2 := by
        refine hbel.trans ⟨?_, ?_, ?_, by rw [hsz2, hsz]; exact Nat.le_refl _, fun k hk => ?_⟩
        · rw [hw2]; rcases hw1 with rfl | rfl <;> rfl
        · rw [hw2]; rcases hw1 with rfl | rfl <;> rfl
        · rw [hw2]; rcases hw1 with rfl | rfl <;> rfl
        · rw [hw2]
          show (w1.heap.setIfInBounds _ _)[k]? = _
          rw [hheap, Array.getElem?_setIfInBounds, if_neg (by omega)]
      have hc2 := HC.out w2 hbel2
      have hen := run_entry_at (P := Yba.prog) w2 w.heap.size m n seen (entries f n).toArray n (ent (f i) i) hr2 hc2.2.1 (mem_entries.2 ⟨i, hi, rfl⟩) (born_nodup f n)
      have hen' : (Instr.entry (.pointer (some ⟨w.heap.size, 0, none⟩))).run Yba.prog w2 = .ok (.tuple #[ptr (f i), .agg #[]]) w2 := hen
      have hcm := hc2.2.2 i hi
      have hlt := left_less (f := f) hi his
      have hsn2 : ∀ j ∈ (seen.push i).toList, j < n := by
        intro j hj
        simp at hj
        rcases hj with hj | rfl
        · exact hsn j (by simpa using hj)
        · exact hi
      have HK : Hid ((leftOf (entries f n).toArray (seen.push i)).size < (leftOf (entries f n).toArray seen).size ∧ (∀ j ∈ (seen.push i).toList, j < n) ∧ w2.heap[w.heap.size]? = some (.mapIter (some m) n (seen.push i) n) ∧ w2.heap.size = w.heap.size + 1 ∧ Below w.heap.size W0 w2) := ⟨hlt, hsn2, hr2, hsz2, hbel2⟩
      have HL : Hid (Least (seen.toList.map z) v) := hL
      have HM : Hid ((seen.push i).toList.map z = seen.toList.map z ++ [z i]) := by
        show _ = _
        simp
      obtain ⟨zi, hzi⟩ : ∃ zi, zi = z i := ⟨_, rfl⟩
      rw [← hzi] at hcm HM
      clear hlt hsn2 hr2 hsz2 hbel2 hL hen hc2 hrun hheap hw2 hw1 hc hr hsz hbel hsn he HB HC hzi his
      by_cases hz0 : zi = 0
      · subst hz0
        go_wp2
        go_roundg (leftOf (entries f n).toArray (seen.push i)).size
        case measure => exact HK.out.1
        case rel => exact ⟨seen.push i, v, rfl, rfl, HK.out.2.1, by rw [HM.out]; exact HL.out.skip (.inl rfl), HK.out.2.2.1, HK.out.2.2.2.1, HK.out.2.2.2.2⟩
      · have hz1 : (zi != 0) = true := by simpa using hz0
        by_cases hv : v = 0
        · subst hv
          go_wp2
          go_roundg (leftOf (entries f n).toArray (seen.push i)).size
          case measure => exact HK.out.1
          case rel => exact ⟨seen.push i, zi, rfl, rfl, HK.out.2.1, by rw [HM.out]; exact HL.out.take hz0 (.inl rfl), HK.out.2.2.1, HK.out.2.2.2.1, HK.out.2.2.2.2⟩
        · have hv1 : (v == 0) = false := by simpa using hv
          by_cases hzv : zi < v
          · go_wp2
            go_roundg (leftOf (entries f n).toArray (seen.push i)).size
            case measure => exact HK.out.1
            case rel => exact ⟨seen.push i, zi, rfl, rfl, HK.out.2.1, by rw [HM.out]; exact HL.out.take hz0 (.inr hzv), HK.out.2.2.1, HK.out.2.2.2.1, HK.out.2.2.2.2⟩
          · go_wp2
            go_roundg (leftOf (entries f n).toArray (seen.push i)).size
            case measure => exact HK.out.1
            case rel => exact ⟨seen.push i, v, rfl, rfl, HK.out.2.1, by rw [HM.out]; exact HL.out.skip (.inr ⟨hv, by omega⟩), HK.out.2.2.1, HK.out.2.2.2.1, HK.out.2.2.2.2⟩
end Go.Proofs.Ybulkcfcg.pm
