/- A region that draws its order, by an invariant over what has come up: each operation is run once, not once an order. -/
import Derived.Test.YbulkcfbeTime
namespace Go.Proofs.Ybulkcfbe.inv
open Go.ChangeShapes Go.WideShapes Go.ChangeAt Go.RowKit
set_option linter.unusedVariables false
def left (n : Nat) (listed : Array Bool) : Nat := (List.range n).countP fun i => !listed.getD i true
theorem countP_lt {p q : Nat → Bool} {i : Nat} : ∀ (l : List Nat), i ∈ l → p i = true → q i = false → (∀ j, q j = true → p j = true) → l.countP q < l.countP p
  | [], h, _, _, _ => by cases h
  | x :: l, h, hp, hq, hs => by
    have hle : l.countP q ≤ l.countP p := List.countP_mono_left fun j _ => hs j
    rcases List.mem_cons.1 h with rfl | h
    · rw [List.countP_cons_of_neg (by simp [hq]), List.countP_cons_of_pos hp]; omega
    · have ih := countP_lt l h hp hq hs
      by_cases hx : q x = true
      · rw [List.countP_cons_of_pos hx, List.countP_cons_of_pos (hs x hx)]; omega
      · rw [List.countP_cons_of_neg hx]
        by_cases hpx : p x = true
        · rw [List.countP_cons_of_pos hpx]; omega
        · rw [List.countP_cons_of_neg hpx]; exact ih
section
variable {P : Program} {md : Region.Mode} {ops : Array Oper} {Q : Exit → Act → World → Prop}
theorem ready_mem {listed : Array Bool} {i : Nat} (h : i ∈ Region.ready md ops listed) : i < ops.size ∧ listed.getD i true = false ∧ ∃ o, ops[i]? = some o ∧ ∀ e ∈ o.after, Region.binds md e = true → listed.getD e.on false = true := by
  unfold Region.ready at h
  rw [List.mem_filter] at h
  obtain ⟨h1, h2⟩ := h
  have hi : i < ops.size := List.mem_range.1 h1
  refine ⟨hi, ?_, ops[i], Array.getElem?_eq_getElem hi, ?_⟩
  · simp at h2; simpa using h2.1
  · intro e he hb
    rw [Array.getElem?_eq_getElem hi] at h2
    simp only [Option.map_some, Option.getD_some, Bool.and_eq_true, Array.all_eq_true'] at h2
    have := h2.2 e he
    simpa [hb] using this
/-- Every operation waits on earlier ones alone. -/
def Down (md : Region.Mode) (ops : Array Oper) : Prop := ∀ i o, ops[i]? = some o → ∀ e ∈ o.after, Region.binds md e = true → e.on < i
def downB (md : Region.Mode) (ops : Array Oper) : Bool := (List.range ops.size).all fun i => ((ops[i]?).map fun o => o.after.all fun e => !Region.binds md e || decide (e.on < i)).getD true
theorem down_of (h : downB md ops = true) : Down md ops := by
  intro i o ho e he hb
  unfold downB at h
  rw [List.all_eq_true] at h
  have hi : i < ops.size := (Array.getElem?_eq_some_iff.1 ho).1
  have := h i (List.mem_range.2 hi)
  rw [ho] at this
  simp only [Option.map_some, Option.getD_some, Array.all_eq_true'] at this
  have h2 := this e he
  simpa [hb] using h2
theorem ready_nil (hd : Down md ops) {listed : Array Bool} (hs : listed.size = ops.size) (h : Region.ready md ops listed = []) : ∀ i, i < ops.size → listed.getD i false = true := by
  intro i
  induction i using Nat.strongRecOn with
  | ind i ih =>
    intro hi
    cases hl : listed.getD i false with
    | true => rfl
    | false =>
      exfalso
      have : i ∈ Region.ready md ops listed := by
        unfold Region.ready
        rw [List.mem_filter]
        refine ⟨List.mem_range.2 hi, ?_⟩
        rw [Array.getElem?_eq_getElem hi]
        simp only [Option.map_some, Option.getD_some, Bool.and_eq_true, Array.all_eq_true']
        refine ⟨?_, fun e he => ?_⟩
        · simp [Array.getD, hs, hi] at hl ⊢; exact hl
        · by_cases hb : Region.binds md e = true
          · have hlt := hd i _ (Array.getElem?_eq_getElem hi) e he hb
            rw [ih e.on hlt (by omega)]
            simp
          · simp [hb]
      rw [h] at this
      cases this
theorem wpAny_inv (hd : Down md ops) (I : Array Bool → Act → World → Prop)
    (hstep : ∀ listed a w i o, I listed a w → listed.size = ops.size → listed.getD i true = false → ops[i]? = some o → (∀ e ∈ o.after, Region.binds md e = true → listed.getD e.on false = true) → wpOp P ops Q i (fun a' w' => I (listed.setIfInBounds i true) a' w') a w)
    (hdone : ∀ listed a w, I listed a w → (∀ i, i < ops.size → listed.getD i false = true) → Q .normal a w) :
    ∀ (fuel : Nat) (listed : Array Bool) (a : Act) (w : World), listed.size = ops.size → left ops.size listed ≤ fuel → I listed a w → wpAny P md ops Q fuel listed a w
  | 0, listed, a, w, hs, hf, h => by
    have hr : Region.ready md ops listed = [] := by
      cases hr : Region.ready md ops listed with
      | nil => rfl
      | cons i rs =>
        have hm : i ∈ Region.ready md ops listed := by rw [hr]; simp
        obtain ⟨hi, hl, _⟩ := ready_mem hm
        have : 0 < left ops.size listed := List.countP_pos_iff.2 ⟨i, List.mem_range.2 hi, by simp [hl]⟩
        omega
    exact ⟨hr, hdone _ _ _ h (ready_nil hd hs hr)⟩
  | fuel + 1, listed, a, w, hs, hf, h => by
    refine ⟨fun hr => hdone _ _ _ h (ready_nil hd hs hr), fun i hi => ?_⟩
    obtain ⟨hlt, hl, o, ho, hdep⟩ := ready_mem hi
    refine wpOp_mono ?_ (hstep listed a w i o h hs hl ho hdep)
    intro a' w' h'
    refine wpAny_inv hd I hstep hdone fuel _ a' w' (by simpa using hs) ?_ h'
    have : left ops.size (listed.setIfInBounds i true) < left ops.size listed := by
      refine countP_lt (i := i) _ (List.mem_range.2 hlt) (by simp [hl]) ?_ ?_
      · simp [Array.getD, hs, hlt]
      · intro j hj
        by_cases e : i = j
        · subst e; simp [hl]
        · rw [Array.getD_eq_getD_getElem?, Array.getElem?_setIfInBounds, if_neg e, ← Array.getD_eq_getD_getElem?] at hj
          exact hj
    omega
end
end Go.Proofs.Ybulkcfbe.inv
