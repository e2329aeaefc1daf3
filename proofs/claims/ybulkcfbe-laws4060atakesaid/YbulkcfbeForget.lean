/- (*pit).forget. -/
import Derived.Test.YbulkcfbePend
import Derived.Deep.RegionLaw
namespace Go.Proofs.Ybulkcfbe.pd
open Go.ChangeShapes Go.WideShapes Go.ChangeAt Go.RowKit
open Go.Proofs.Ybulkcfbe.tm Go.Proofs.Ybulkcfbe.sm
open Go.ChangeMaps (setBlock)
set_option linter.unusedVariables false
theorem block_set {w : World} {g o : Nat} {xs : Array Value} {t : TypeId} (v : Value) (hb : w.heap[g]? = some (.cells xs t (0, 0))) : (w.setCell ⟨g, o, none⟩ v).heap[g]? = some (.cells (xs.setIfInBounds o v) t (0, 0)) := by
  simp only [World.setCell, Array.getElem?_modify, hb]
  simp
/-- 'delete' as one step of a region that draws. -/
theorem step_delete {P : Program} {ops : Array Oper} {o : Oper} {a : Act} {w w' : World} {K : Act → World → Prop} {Q : Exit → Act → World → Prop} {E : Prop}
    (hg : o.guard = none) (m x : Operand) (t k : TypeId) (hop : o.op = Op.call { callee := Callee.builtin Builtin.delete, args := #[m, x], argTypes := #[t, k] })
    (b : Nat) (hm : a.eval m = .map (some b)) (s : ByteArray) (hx : a.eval x = .string s) (hrun : (Builtin.delete_ #[t, k] o.type #[.map (some b), .string s]).run P w = .ok (.tuple #[]) w')
    (hK : K (a.put o.dst (.tuple #[])) w') : if Region.wanted o (yielded ops a.tmps) = true then Oper.wp P o a w K Q else E := by
  have hw : Region.wanted o (yielded ops a.tmps) = true := by simp [Region.wanted, hg]
  rw [if_pos hw]
  unfold Oper.wp
  simp [execOp, hop, resolve, invoke, builtin, hm, hx, hrun, Result.andThen]
  exact hK
structure Forgot (B E T : Nat) (hm size cap bcap bytes : Int) (rnp : ByteArray) (es : Array MapEntry) (w w' : World) : Prop where
  t : w'.heap[B]? = some (.cells (pitC E T hm (wrap64 (size - 1)) cap bcap bytes) 39 (0, 0))
  map : ∃ es' clock', w'.heap[T]? = some (.map es' clock') ∧ StrKeys es'.toList ∧ (∀ k, lookS es'.toList k = if rnp ≠ ⟨#[]⟩ ∧ k = rnp then none else lookS es.toList k) ∧
      es'.size = es.size - (if rnp ≠ ⟨#[]⟩ ∧ (lookS es.toList rnp).isSome then 1 else 0)
  kept : Kept (fun k => k = B ∨ k = T) w w'
/-- (*pit).forget. -/
theorem forget (B E T g n c clock : Nat) (hm size cap bcap bytes : Int) (rnp : ByteArray) (es : Array MapEntry) (w : World) (ht : w.heap[B]? = some (.cells (pitC E T hm size cap bcap bytes) 39 (0, 0))) (hT : w.heap[T]? = some (.map es clock)) (hg : StrKeys es.toList) :
    Calls Yba.prog 23 #[.pointer (some ⟨B, 0, none⟩), entV g n c rnp] w fun e w' => e = .returned (.tuple #[]) ∧ Forgot B E T hm size cap bcap bytes rnp es w w' := by
  have hBT : ¬ B = T := by intro e; subst e; rw [hT] at ht; cases ht
  have lB := lt_heap ht
  have lT := lt_heap hT
  have c2 : w.cell? ⟨B, 2, none⟩ = some (.map (some T)) := by simp [World.cell?, ht, pitC]
  have c3 : w.cell? ⟨B, 3, none⟩ = some (.int .i64 size) := by simp [World.cell?, ht, pitC]
  have f3 : w.frozen? ⟨B, 3, none⟩ = false := by simp [World.frozen?, ht]
  have HP : Hid (w.heap[B]? = some (.cells (pitC E T hm size cap bcap bytes) 39 (0, 0))) := ht
  have HT : Hid (w.heap[T]? = some (.map es clock)) := hT
  have sz : ∀ v, (w.setCell ⟨B, 3, none⟩ v).heap.size = w.heap.size := fun v => by simp [World.setCell]
  have tB : ∀ o, ((w.setCell ⟨B, 3, none⟩ (.int .i64 (wrap64 (size - 1)))).alloc o).heap[B]? = some (.cells (pitC E T hm (wrap64 (size - 1)) cap bcap bytes) 39 (0, 0)) := fun o => by
    rw [Below.heap_alloc _ _ _ (by rw [sz]; exact lB), block_set _ ht]; rfl
  have tT : ∀ o, ((w.setCell ⟨B, 3, none⟩ (.int .i64 (wrap64 (size - 1)))).alloc o).heap[T]? = some (.map es clock) := fun o => by
    rw [Below.heap_alloc _ _ _ (by rw [sz]; exact lT), Below.heap_setCell _ _ _ _ (show T ≠ B from fun e => hBT e.symm)]; exact hT
  have kk : ∀ o, Kept (fun k => k = B ∨ k = T) w ((w.setCell ⟨B, 3, none⟩ (.int .i64 (wrap64 (size - 1)))).alloc o) := fun o => ((Kept.refl _ w).setCell (.inl (.inl rfl)) _).alloc o
  have HB : Hid (∀ o, ((w.setCell ⟨B, 3, none⟩ (.int .i64 (wrap64 (size - 1)))).alloc o).heap[B]? = some (.cells (pitC E T hm (wrap64 (size - 1)) cap bcap bytes) 39 (0, 0))) := tB
  have HTT : Hid (∀ o, ((w.setCell ⟨B, 3, none⟩ (.int .i64 (wrap64 (size - 1)))).alloc o).heap[T]? = some (.map es clock)) := tT
  have HK : Hid (∀ o, Kept (fun k => k = B ∨ k = T) w ((w.setCell ⟨B, 3, none⟩ (.int .i64 (wrap64 (size - 1)))).alloc o)) := kk
  have HG : Hid (StrKeys es.toList) := hg
  clear ht hT tB tT kk sz hg
  by_cases hr : rnp = ⟨#[]⟩
  · subst hr
    unfold entV
    go_enter Yba.func23, Yba.ntmps23
    go_wp2
    go_end0
    exact ⟨rfl, HB.out _, ⟨es, clock, HTT.out _, HG.out, fun k => by simp, by simp⟩, HK.out _⟩
  · have hne : (rnp.toList == []) = false := by
      have h1 : (rnp == (⟨#[]⟩ : ByteArray)) = false := by rw [beq_dec]; simpa using hr
      rw [beq_toListBytes, ByteArray.toList_eq ⟨#[]⟩] at h1
      exact h1
    have HR : Hid (¬ rnp = ⟨#[]⟩) := hr
    clear hr
    unfold entV
    go_enter Yba.func23, Yba.ntmps23
    go_wp2
    obtain ⟨W, hW⟩ : ∃ W, W = (w.setCell ⟨B, 3, none⟩ (.int .i64 (wrap64 (size - 1)))).alloc (.cells #[.slice (some ⟨g, 0, none⟩) n c, .int .u8 0, .slice none 0 0, .string rnp] 59) := ⟨_, rfl⟩
    have e0 : W.cell? ⟨w.heap.size, 3, none⟩ = some (.string rnp) := by
      have : W.heap[w.heap.size]? = some (.cells #[.slice (some ⟨g, 0, none⟩) n c, .int .u8 0, .slice none 0 0, .string rnp] 59) := by
        rw [hW]
        show ((w.setCell _ _).heap.push _)[w.heap.size]? = _
        rw [Array.getElem?_push, if_pos (by simp [World.setCell])]
      simp [World.cell?, this]
    have e2 : W.cell? ⟨B, 2, none⟩ = some (.map (some T)) := by
      have := HB.out (.cells #[.slice (some ⟨g, 0, none⟩) n c, .int .u8 0, .slice none 0 0, .string rnp] 59)
      rw [← hW] at this
      simp [World.cell?, this, pitC]
    have eT : W.heap[T]? = some (.map es clock) := by rw [hW]; exact HTT.out _
    have eB : W.heap[B]? = some (.cells (pitC E T hm (wrap64 (size - 1)) cap bcap bytes) 39 (0, 0)) := by rw [hW]; exact HB.out _
    have eK : Kept (fun k => k = B ∨ k = T) w W := by rw [hW]; exact HK.out _
    rw [← hW]
    obtain ⟨es', hrun, h1, h2, h3⟩ := run_delete (P := Yba.prog) (w := W.drew) Yba.underlying9 Yba.underlying33 eT HG.out rnp 0
    have H : Hid (Forgot B E T hm size cap bcap bytes rnp es w (setBlock W.drew T (.map es' clock))) := by
      refine ⟨?_, ⟨es', clock, ?_, h1, ?_, ?_⟩, eK.drew.setBlock (.inl (.inr rfl)) _⟩
      · rw [setBlock_block, if_neg (fun e => hBT e.symm)]; exact eB
      · rw [setBlock_block, if_pos rfl, if_pos (show T < W.drew.heap.size from lt_heap eT)]
      · intro k; rw [h2]; simp [HR.out]
      · rw [h3]; simp [HR.out]
    clear h1 h2 h3 HB HTT HK HG eT eB eK hW
    go_region_law (refine step_delete rfl _ _ 33 9 rfl T rfl rnp rfl hrun ?_)
    all_goals
      go_end0
      exact ⟨rfl, H.out⟩
end Go.Proofs.Ybulkcfbe.pd
