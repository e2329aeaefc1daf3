/- The law's own slice of waits; the rows compared. -/
import Derived.Test.YbulkcfbeAft
import Derived.Deep.AppendSrc
namespace Go.Proofs.Ybulkcfbe.tab
open Go.ChangeShapes Go.WideShapes Go.ChangeAt Go.RowKit
open Go.Proofs.Ybulkcfbe.tm Go.Proofs.Ybulkcfbe.sm Go.Proofs.Ybulkcfbe.pd
open Go.ChangeMaps (setBlock)
set_option linter.unusedVariables false
theorem info43 : (Yba.prog.info? 43).map (fun i => (i.zero, i.size, i.bytes)) = some (some (.agg #[.int .u16 0, .int .i32 0, .int .u8 0]), 3, 12) := by kernel_rfl
def Wt.cells (q : Wt) : List Value := [.int .u16 q.p, .int .i32 q.x, .int .u8 q.l]
def flatW (l : List Wt) : List Value := l.flatMap Wt.cells
theorem flatW_cons (x : Wt) (l : List Wt) : flatW (x :: l) = x.cells ++ flatW l := rfl
theorem flatW_append (a b : List Wt) : flatW (a ++ b) = flatW a ++ flatW b := by simp [flatW]
theorem flatW_length (l : List Wt) : (flatW l).length = l.length * 3 := by
  induction l with
  | nil => rfl
  | cons x l ih => rw [flatW_cons, List.length_append, ih]; simp [Wt.cells]; omega
theorem flatW_get (xs : List Wt) : ∀ (i j : Nat) (x : Wt), xs[i]? = some x → j < 3 → (flatW xs)[i * 3 + j]? = x.cells[j]? := by
  induction xs with
  | nil => intro i j x h; simp at h
  | cons y ys ih =>
    intro i j x h hj
    rw [flatW_cons]
    cases i with
    | zero =>
      simp at h
      subst h
      rw [List.getElem?_append_left (by simp [Wt.cells]; omega)]
      congr 1
      omega
    | succ i =>
      simp at h
      rw [List.getElem?_append_right (by simp [Wt.cells]; omega), show (i + 1) * 3 + j - y.cells.length = i * 3 + j by simp [Wt.cells]; omega]
      exact ih i j x h hj
theorem flatW_oneCell (xs : List Wt) : ∀ u ∈ flatW xs, u.oneCell' = true := by
  intro u hu
  simp only [flatW, List.mem_flatMap] at hu
  obtain ⟨x, _, hx⟩ := hu
  simp only [Wt.cells, List.mem_cons, List.not_mem_nil, or_false] at hx
  rcases hx with rfl | rfl | rfl <;> rfl
theorem flatW_read {w : World} {a : Option Addr} {n : Nat} {ws : List Wt} (h : ReadsW w a n ws) : ∀ (k : Nat) (u : Value), (flatW ws)[k]? = some u → ∃ b o, a = some ⟨b, o, none⟩ ∧ b < w.heap.size ∧ w.cell? ⟨b, o + k, none⟩ = some u := by
  intro k u hu
  have hk : k < ws.length * 3 := by
    rcases Nat.lt_or_ge k (ws.length * 3) with h' | h'
    · exact h'
    · rw [List.getElem?_eq_none (by rw [flatW_length]; exact h')] at hu; cases hu
  obtain ⟨q, hq⟩ : ∃ q, ws[k / 3]? = some q := ⟨_, List.getElem?_eq_getElem (by omega)⟩
  have e := flatW_get ws (k / 3) (k % 3) q hq (by omega)
  rw [show k / 3 * 3 + k % 3 = k by omega, hu] at e
  obtain ⟨b, o, h1, h2, h3, h4, h5, _⟩ := h.at_ (k / 3) q hq
  refine ⟨b, o, h1, h2, ?_⟩
  have : k % 3 = 0 ∨ k % 3 = 1 ∨ k % 3 = 2 := by omega
  rcases this with r | r | r
  · rw [r] at e; simp [Wt.cells] at e; rw [e, show o + k = o + k / 3 * 3 by omega]; exact h3
  · rw [r] at e; simp [Wt.cells] at e; rw [e, show o + k = o + k / 3 * 3 + 1 by omega]; exact h4
  · rw [r] at e; simp [Wt.cells] at e; rw [e, show o + k = o + k / 3 * 3 + 2 by omega]; exact h5
theorem wpList_append_run {P : Program} {ops : Array Oper} {rest : List Oper} {o : Oper} {a : Act} {Q : Exit → Act → World → Prop} {w w' : World} {v' : Value} (hgd : o.guard = none) (s x : Operand) (t : TypeId)
    (ho : o.op = .call { callee := .builtin .append, args := #[s, x], argTypes := #[t, t] }) (vs vx : Value) (hs : a.eval s = vs) (hx : a.eval x = vx)
    (hrun : (Builtin.append_ #[t, t] o.type #[vs, vx]).run P w = .ok v' w') (h : wpList P ops Q rest (a.put o.dst v') w') : wpList P ops Q (o :: rest) a w := by
  refine wpList_plain hgd fun K hK => ?_
  unfold Oper.wp execOp
  simp only [ho, resolve, invoke, builtin, Sem.run_bind, Sem.run_pure, Result.andThen_ok, List.map_toArray, List.map_cons, List.map_nil, hs, hx, hrun]
  exact hK _ _ h
/-- append([]ZzWait{}, pre...). -/
theorem want_start {w W : World} {a : Option Addr} {n c : Nat} {pre : List Wt} (h : ReadsW w a n pre) (hn : n ≤ 1024) (hb : Below w.heap.size w W) (ty : TypeId) : ∃ v' W', (Builtin.append_ #[23, 23] ty #[.slice (some ⟨W.heap.size, 0, none⟩) 0 0, .slice a n c]).run Yba.prog (W.alloc (.cells #[] 43)) = .ok v' W' ∧ W'.ownsRow W.heap.size 43 3 v' n (flatW pre) ∧ Below W.heap.size W W' := by
  obtain ⟨i, hi, hz, hs, hby⟩ := info_of info43
  have hnew : (W.alloc (.cells #[] 43)).heap[W.heap.size]? = some (.cells #[] 43 (0, 0)) := by
    show (W.heap.push _)[W.heap.size]? = _
    simp
  have hown : (W.alloc (.cells #[] 43)).ownsRow W.heap.size 43 3 (.slice (some ⟨W.heap.size, 0, none⟩) 0 0) 0 [] := ⟨rfl, .inr ⟨W.heap.size, 0, #[], rfl, Nat.le_refl _, hnew, Nat.le_refl _, Nat.zero_le _, rfl, rfl⟩⟩
  have hB0 : Below W.heap.size W (W.alloc (.cells #[] 43)) := (Below.refl _ _).alloc (Nat.le_refl _) _
  have hl := h.len
  have key : ∀ ad : Addr, a = some ad → ∃ v' W', (Builtin.append_ #[23, 23] ty #[.slice (some ⟨W.heap.size, 0, none⟩) 0 0, .slice (some ad) n c]).run Yba.prog (W.alloc (.cells #[] 43)) = .ok v' W' ∧ W'.ownsRow W.heap.size 43 3 v' n (flatW pre) ∧ Below W.heap.size W W' := fun ad had => by
    obtain ⟨v', W', r1, r2, r3, _⟩ := run_append_own (P := Yba.prog) (W.alloc (.cells #[] 43)) W.heap.size 23 ty 43 i _ 3 12 Yba.underlying23 hi hz hs hby rfl (by decide) _ 0 [] hown ad n c (flatW pre) (by rw [flatW_length, hl]) (fun k u hu => by
      obtain ⟨b, o, e1, e2, e3⟩ := flatW_read h k u hu
      rw [had] at e1
      cases e1
      have e4 : (⟨b, o, none⟩ : Addr).add k = ⟨b, o + k, none⟩ := by
        by_cases e : k = 0
        · subst e; rfl
        · simp [Addr.add, e]
      rw [e4]
      have := hb.size
      rw [hB0.cell (p := ⟨b, o + k, none⟩) (by show b < _; omega), hb.cell (p := ⟨b, o + k, none⟩) e2]
      exact e3) (flatW_oneCell pre) (by unfold maxLen; omega) (by omega) (by simp)
    refine ⟨v', W', r1, ?_, ?_⟩
    · simpa using r2
    · exact hB0.grown r3 (by simp) (fun k hk => by cases hk; exact Nat.le_refl _)
  cases a with
  | some ad => exact key ad rfl
  | none =>
    have hp : pre = [] := by
      cases pre with
      | nil => rfl
      | cons q l =>
        obtain ⟨b, o, e, _⟩ := h.at_ 0 q rfl
        cases e
    subst hp
    obtain rfl : n = 0 := by simpa using hl.symm
    have hr := run_append_room_src (P := Yba.prog) (W.alloc (.cells #[] 43)) 23 23 ty 43 i Yba.underlying23 hi W.heap.size 0 0 0 (.slice none 0 c) 0 [] (Src.ofNil _ Yba.underlying23 c) (by omega) (fun j hj => by cases hj) (fun j hj => by cases hj)
    exact ⟨_, _, hr, hown, hB0⟩
/-- The waits of the data that outlast now; the bytes. -/
def liveW (now : Int) (ws : List Wt) : List Wt := ws.filter fun q => decide (now < q.x)
def bytesW (b : Int) (ws : List Wt) : Int := ws.foldl (fun b q => wrap64 (b - q.l)) b
theorem liveW_snoc (now : Int) (ws : List Wt) (q : Wt) : liveW now (ws ++ [q]) = liveW now ws ++ (if now < q.x then [q] else []) := by
  by_cases h : now < q.x <;> simp [liveW, h]
theorem bytesW_snoc (b : Int) (ws : List Wt) (q : Wt) : bytesW b (ws ++ [q]) = wrap64 (bytesW b ws - q.l) := by simp [bytesW]
theorem live_map (now : Int) (ps : List Pend) : (live now ps).map wtOf = liveW now (ps.map wtOf) := by
  induction ps with
  | nil => rfl
  | cons p ps ih =>
    unfold live liveW at *
    by_cases h : now < p.x
    · simp [h, wtOf] at ih ⊢; exact ih
    · simp [h, wtOf] at ih ⊢; exact ih
theorem bytes_map (ps : List Pend) : ∀ b : Int, bytesOf b ps = bytesW b (ps.map wtOf) := by
  induction ps with
  | nil => intro b; rfl
  | cons p ps ih => intro b; exact ih _
/-- A row that is owned, as a value. -/
theorem owns_form {W : World} {base e size n : Nat} {v : Value} {xs : List Value} (h : W.ownsRow base e size v n xs) : ∃ a cap, v = .slice a n cap ∧ (0 < n → ∃ g, a = some ⟨g, 0, none⟩ ∧ g < W.heap.size ∧ ∀ k, k < n * size → W.cell? ⟨g, k, none⟩ = xs[k]?) := by
  rcases h.2 with ⟨h1, h2⟩ | ⟨g, cap, cur, hv, hb, hh, a1, a2, a3, a4⟩
  · exact ⟨none, 0, by rw [h1, h2], fun h => by omega⟩
  · refine ⟨_, cap, hv, fun _ => ⟨g, rfl, lt_heap hh, fun k hk => ?_⟩⟩
    have hx : W.cell? ⟨g, k, none⟩ = cur[k]? := by
      unfold World.cell?
      rw [hh]
      rfl
    rw [hx, ← a4, List.getElem?_take_of_lt hk]
    simp
theorem neq52 (p : Int) (W : World) : (binOp .neq 52 (.agg #[.int .u64 0, .int .u64 0, .pointer none, .int .u16 p]) (.agg #[.int .u64 0, .int .u64 0, .pointer none, .int .u16 p])).run Yba.prog W = .ok (.bool false) W := by
  rw [run_neq_struct]
  have h1 := run_equalIn_struct (P := Yba.prog) W 9999 52 #[.int .u64 0, .int .u64 0, .pointer none, .int .u16 p] #[.int .u64 0, .int .u64 0, .pointer none, .int .u16 p] (by kernel_rfl) (by kernel_rfl)
  rw [h1]
  have hp : (Op.equalIn 9997 46 (.pointer none) (.pointer none)).run Yba.prog W = .ok true W := by kernel_rfl
  simp [go_sem, hp]
end Go.Proofs.Ybulkcfbe.tab
