/- The table that LawS4060ATake builds, as plain data and as it lies in memory. -/
import Derived.Test.YbulkcfbeTake
import Derived.Test.YbulkcfbeApend
namespace Go.Proofs.Ybulkcfbe.tab
open Go.ChangeShapes Go.WideShapes Go.ChangeAt Go.RowKit
open Go.Proofs.Ybulkcfbe.tm Go.Proofs.Ybulkcfbe.sm Go.Proofs.Ybulkcfbe.pd
open Go.ChangeMaps (setBlock)
set_option linter.unusedVariables false
/-- One wait of the law's data. -/
structure Wt where
  p : Int
  x : Int
  l : Nat
/-- The waits ws lie behind the slice (a, n, _) of the data. -/
structure ReadsW (w : World) (a : Option Addr) (n : Nat) (ws : List Wt) : Prop where
  len : ws.length = n
  at_ : ∀ (i : Nat) (q : Wt), ws[i]? = some q → ∃ b o, a = some ⟨b, o, none⟩ ∧ b < w.heap.size ∧ w.cell? ⟨b, o + i * 3, none⟩ = some (.int .u16 q.p) ∧ w.cell? ⟨b, o + i * 3 + 1, none⟩ = some (.int .i32 q.x) ∧ w.cell? ⟨b, o + i * 3 + 2, none⟩ = some (.int .u8 q.l) ∧
    (-2147483648 ≤ q.x ∧ q.x ≤ 2147483647) ∧ q.l ≤ 255
theorem ReadsW.below {w w' : World} {a : Option Addr} {n : Nat} {ws : List Wt} (h : ReadsW w a n ws) {B : Nat} (hB : w.heap.size ≤ B) (hb : Below B w w') : ReadsW w' a n ws := by
  refine ⟨h.len, fun i q hq => ?_⟩
  obtain ⟨b, o, h1, h2, h3, h4, h5, h6⟩ := h.at_ i q hq
  refine ⟨b, o, h1, Nat.lt_of_lt_of_le h2 hb.size, ?_, ?_, ?_, h6⟩
  · rw [hb.cell (p := ⟨b, o + i * 3, none⟩) (by show b < B; omega)]; exact h3
  · rw [hb.cell (p := ⟨b, o + i * 3 + 1, none⟩) (by show b < B; omega)]; exact h4
  · rw [hb.cell (p := ⟨b, o + i * 3 + 2, none⟩) (by show b < B; omega)]; exact h5
/-- What stands in one of the eight places. -/
structure Slot where
  a : Option Addr
  n : Nat
  c : Nat
  rnp : Bool
  ws : List Wt
  g : Nat
  ps : List Pend
def wtOf (q : Pend) : Wt := ⟨q.p, q.x, q.l⟩
def rS (r : Nat) : ByteArray := if r = 0 then ⟨#[0]⟩ else ⟨#[1]⟩
def nS (n : Nat) : ByteArray := if n = 0 then ⟨#[]⟩ else if n = 1 then ⟨#[97]⟩ else if n = 2 then ⟨#[98]⟩ else ⟨#[97, 98]⟩
def keep : ByteArray := ⟨#[107, 101, 101, 112]⟩
/-- All values are pairs of strings. -/
def Pl (es : List MapEntry) : Prop := ∀ k v, lookS es k = some v → ∃ a b, v = .agg #[.string a, .string b]
def presA (S : Nat → Option Slot) : Array Value := ((List.range 8).map fun i => Value.bool (S i).isSome).toArray
def modelA (S : Nat → Option Slot) : Array Value := ((List.range 8).map fun i => match S i with | none => Value.slice none 0 0 | some e => .slice e.a e.n e.c).toArray
def rnpsA (S : Nat → Option Slot) : Array Value := ((List.range 8).map fun i => Value.bool (match S i with | none => false | some e => e.rnp)).toArray
def rnpOf (s : Nat) (e : Slot) : ByteArray := if e.rnp = true then tS s else ⟨#[]⟩
def entOf (s : Nat) (e : Slot) : Value := entV e.g e.n e.n (rnpOf s e)
/-- The names of one restriction. -/
structure Names (w : World) (S : Nat → Option Slot) (r m : Nat) : Prop where
  map : ∃ es clock, w.heap[m]? = some (.map es clock) ∧ StrKeys es.toList ∧ ∀ n, n < 4 → lookS es.toList (nS n) = (S (r * 4 + n)).map (entOf (r * 4 + n))
/-- The table behind some entries; B is the first block of the call's own. -/
structure Tab (B : Nat) (w0 w : World) (S : Nat → Option Slot) (R : Nat → Option Nat) (size bytes : Int) : Prop where
  bel : Below B w0 w
  restr : w.heap[B]? = some (.cells #[.string (rS 0), .string (rS 1)] 26 (0, 0))
  names : w.heap[B + 1]? = some (.cells #[.string (nS 0), .string (nS 1), .string (nS 2), .string (nS 3)] 27 (0, 0))
  pres : w.heap[B + 2]? = some (.cells (presA S) 28 (0, 0))
  model : w.heap[B + 3]? = some (.cells (modelA S) 29 (0, 0))
  rnps : w.heap[B + 4]? = some (.cells (rnpsA S) 28 (0, 0))
  t : w.heap[B + 7]? = some (.cells (pitC (B + 5) (B + 6) 0 size 0 0 bytes) 39 (0, 0))
  ent : ∃ es clock, w.heap[B + 5]? = some (.map es clock) ∧ StrKeys es.toList ∧ ∀ r, r < 2 → lookS es.toList (rS r) = (R r).map fun m => .map (some m)
  tmpl : ∃ es clock, w.heap[B + 6]? = some (.map es clock) ∧ StrKeys es.toList ∧ (lookS es.toList keep).isSome = true ∧ (∀ s, s < 8 → (lookS es.toList (tS s)).isSome = (match S s with | none => false | some e => e.rnp)) ∧ Pl es.toList
  nmsN : ∀ r, r < 2 → R r = none → ∀ n, n < 4 → S (r * 4 + n) = none
  nms : ∀ r m, r < 2 → R r = some m → B + 7 < m ∧ Names w S r m
  inj : ∀ m, R 0 = some m → R 1 ≠ some m
  rows : ∀ s e, s < 8 → S s = some e → B + 7 < e.g ∧ Row w e.g e.ps ∧ e.ps.map wtOf = e.ws ∧ e.ps.length = e.n ∧ e.n ≤ 1024
theorem rS_inj {r r' : Nat} (h : r < 2) (h' : r' < 2) (e : rS r = rS r') : r = r' := by
  have : r = 0 ∨ r = 1 := by omega
  have : r' = 0 ∨ r' = 1 := by omega
  rcases ‹r = 0 ∨ r = 1› with rfl | rfl <;> rcases ‹r' = 0 ∨ r' = 1› with rfl | rfl <;> simp_all [rS]
theorem nS_inj {n n' : Nat} (h : n < 4) (h' : n' < 4) (e : nS n = nS n') : n = n' := by
  have h1 : n = 0 ∨ n = 1 ∨ n = 2 ∨ n = 3 := by omega
  have h2 : n' = 0 ∨ n' = 1 ∨ n' = 2 ∨ n' = 3 := by omega
  rcases h1 with rfl | rfl | rfl | rfl <;> rcases h2 with rfl | rfl | rfl | rfl <;> simp_all [nS]
def upd (S : Nat → Option Slot) (s : Nat) (e : Slot) : Nat → Option Slot := fun i => if i = s then some e else S i
theorem tS_inj {s s' : Nat} (h : s < 8) (h' : s' < 8) (e : tS s = tS s') : s = s' := by
  unfold tS at e
  have h2 : (48 + s).toUInt8 = (48 + s').toUInt8 := by simpa using e
  have h3 := congrArg UInt8.toNat h2
  simp only [Nat.toUInt8, UInt8.toNat_ofNat'] at h3
  omega
theorem tS_keep {s : Nat} : tS s ≠ keep := by
  intro e
  simp [tS, keep] at e
theorem tS_ne {s : Nat} : tS s ≠ ⟨#[]⟩ := by
  intro e
  simp [tS] at e
theorem set_range (f f' : Nat → Value) (s : Nat) (v : Value) (hv : f' s = v) (hf : ∀ i, i ≠ s → f' i = f i) : (((List.range 8).map f).toArray).setIfInBounds s v = ((List.range 8).map f').toArray := by
  apply Array.ext_getElem?
  intro i
  rw [Array.getElem?_setIfInBounds]
  by_cases e : s = i
  · subst e
    by_cases h : s < 8
    · simp [h, hv]
    · simp [h]
  · rw [if_neg e]
    by_cases h : i < 8
    · simp [h, hf i (fun x => e x.symm)]
    · simp [h]
theorem presA_upd (S : Nat → Option Slot) (s : Nat) (e : Slot) : (presA S).setIfInBounds s (.bool true) = presA (upd S s e) := set_range _ _ _ _ (by simp [upd]) (fun i hi => by simp [upd, hi])
theorem modelA_upd (S : Nat → Option Slot) (s : Nat) (e : Slot) : (modelA S).setIfInBounds s (.slice e.a e.n e.c) = modelA (upd S s e) := set_range _ _ _ _ (by simp [upd]) (fun i hi => by simp [upd, hi])
theorem rnpsA_upd (S : Nat → Option Slot) (s : Nat) (e : Slot) : (rnpsA S).setIfInBounds s (.bool e.rnp) = rnpsA (upd S s e) := set_range _ _ _ _ (by simp [upd]) (fun i hi => by simp [upd, hi])
theorem Tab.kept {B : Nat} {w0 w w' : World} {S : Nat → Option Slot} {R : Nat → Option Nat} {size bytes : Int} (h : Tab B w0 w S R size bytes) (hb : Below w.heap.size w w') : Tab B w0 w' S R size bytes := by
  have lt : ∀ {b : Nat} {o : Obj}, w.heap[b]? = some o → w'.heap[b]? = some o := fun {b o} hb' => (hb.block b (lt_heap hb')).trans hb'
  have lB := lt_heap h.restr
  refine ⟨h.bel.trans (hb.mono (by omega)), lt h.restr, lt h.names, lt h.pres, lt h.model, lt h.rnps, lt h.t, ?_, ?_, h.nmsN, ?_, h.inj, ?_⟩
  · obtain ⟨es, c, h1, h2⟩ := h.ent
    exact ⟨es, c, lt h1, h2⟩
  · obtain ⟨es, c, h1, h2⟩ := h.tmpl
    exact ⟨es, c, lt h1, h2⟩
  · intro r m hr hm
    obtain ⟨h1, ⟨es, c, h2, h3⟩⟩ := h.nms r m hr hm
    exact ⟨h1, ⟨es, c, lt h2, h3⟩⟩
  · intro s e hs he
    obtain ⟨h1, h2, h3⟩ := h.rows s e hs he
    obtain ⟨cur, h4, h5⟩ := h2
    exact ⟨h1, ⟨cur, lt h4, h5⟩, h3⟩
theorem Tab.step {B M s : Nat} {w0 w W' : World} {S : Nat → Option Slot} {R : Nat → Option Nat} {size bytes : Int} (h : Tab B w0 w S R size bytes) (hs : s < 8) (e : Slot) (hM : R (s / 4) = some M ∨ (R (s / 4) = none ∧ w.heap.size ≤ M))
    (hK : Kept (fun k => k = B + 2 ∨ k = B + 3 ∨ k = B + 4 ∨ k = B + 5 ∨ k = B + 6 ∨ k = M) w W')
    (h2 : W'.heap[B + 2]? = some (.cells (presA (upd S s e)) 28 (0, 0))) (h3 : W'.heap[B + 3]? = some (.cells (modelA (upd S s e)) 29 (0, 0))) (h4 : W'.heap[B + 4]? = some (.cells (rnpsA (upd S s e)) 28 (0, 0)))
    (h5 : ∃ es clock, W'.heap[B + 5]? = some (.map es clock) ∧ StrKeys es.toList ∧ ∀ r, r < 2 → lookS es.toList (rS r) = if r = s / 4 then some (.map (some M)) else (R r).map fun m => .map (some m))
    (h6 : ∃ es clock, W'.heap[B + 6]? = some (.map es clock) ∧ StrKeys es.toList ∧ (lookS es.toList keep).isSome = true ∧ (∀ s', s' < 8 → (lookS es.toList (tS s')).isSome = (match upd S s e s' with | none => false | some e => e.rnp)) ∧ Pl es.toList)
    (hN : Names W' (upd S s e) (s / 4) M) (hr : B + 7 < e.g ∧ Row W' e.g e.ps ∧ e.ps.map wtOf = e.ws ∧ e.ps.length = e.n ∧ e.n ≤ 1024) :
    Tab B w0 W' (upd S s e) (fun r => if r = s / 4 then some M else R r) size bytes := by
  have l7 := lt_heap h.t
  have hMB : B + 7 < M := by
    rcases hM with hM | hM
    · exact (h.nms _ M (by omega) hM).1
    · omega
  have lt : ∀ {b : Nat} {o : Obj}, w.heap[b]? = some o → (b = B ∨ b = B + 1 ∨ B + 7 ≤ b) → b ≠ M → W'.heap[b]? = some o := fun {b o} hb hx hm => by
    refine (hK.block b (lt_heap hb) ?_).trans hb
    intro x
    rcases x with x | x | x | x | x | x <;> omega
  have notM : ∀ {b : Nat} {c : Array Value} {t : TypeId} {f : Nat × Nat}, w.heap[b]? = some (.cells c t f) → b ≠ M := fun {b c t f} hb x => by
    subst x
    rcases hM with hM | hM
    · obtain ⟨_, ⟨es, cl, hm, _⟩⟩ := h.nms _ _ (by omega) hM
      rw [hm] at hb; cases hb
    · have := lt_heap hb; omega
  refine ⟨h.bel.trans (hK.below (by omega) (fun k hk x => by omega)), lt h.restr (.inl rfl) (by omega), lt h.names (.inr (.inl rfl)) (by omega), h2, h3, h4, lt h.t (.inr (.inr (by omega))) (by omega), ?_, h6, ?_, ?_, ?_, ?_⟩
  · obtain ⟨es, c, a1, a2, a3⟩ := h5
    refine ⟨es, c, a1, a2, fun r hr => ?_⟩
    rw [a3 r hr]
    by_cases x : r = s / 4
    · simp [x]
    · simp [x]
  · intro r hr hn n hn4
    by_cases x : r = s / 4
    · simp [x] at hn
    · simp only [x, if_false] at hn
      have := h.nmsN r hr hn n hn4
      unfold upd
      rw [if_neg (by omega)]
      exact this
  · intro r m hr hm
    by_cases x : r = s / 4
    · simp only [x, if_true] at hm
      cases hm
      rw [x]
      exact ⟨hMB, hN⟩
    · simp only [x, if_false] at hm
      obtain ⟨a1, ⟨es, c, a2, a3, a4⟩⟩ := h.nms r m hr hm
      have hmM : m ≠ M := by
        intro y
        subst y
        rcases hM with hM | hM
        · have h0 : r = 0 ∨ r = 1 := by omega
          have h1 : s / 4 = 0 ∨ s / 4 = 1 := by omega
          rcases h0 with rfl | rfl <;> rcases h1 with h1 | h1
          · omega
          · rw [h1] at hM; exact h.inj m hm hM
          · rw [h1] at hM; exact h.inj m hM hm
          · omega
        · have := lt_heap a2; omega
      refine ⟨a1, ⟨es, c, lt a2 (.inr (.inr (by omega))) hmM, a3, fun n hn => ?_⟩⟩
      rw [a4 n hn]
      unfold upd
      rw [if_neg (by omega)]
  · intro m h0 h1
    by_cases x : 0 = s / 4
    · simp only [x, if_true] at h0
      have h0' : m = M := by cases h0; rfl
      simp only [show ¬ (1 = s / 4) by omega, if_false] at h1
      subst h0'
      rcases hM with hM | hM
      · rw [← x] at hM; exact h.inj m hM h1
      · obtain ⟨_, ⟨es, c, a2, _⟩⟩ := h.nms 1 m (by omega) h1
        have := lt_heap a2; omega
    · have y : 1 = s / 4 := by omega
      simp only [x, if_false] at h0
      simp only [y, if_true] at h1
      have h1' : m = M := by cases h1; rfl
      subst h1'
      rcases hM with hM | hM
      · rw [← y] at hM; exact h.inj m h0 hM
      · obtain ⟨_, ⟨es, c, a2, _⟩⟩ := h.nms 0 m (by omega) h0
        have := lt_heap a2; omega
  · intro s' e' hs' he'
    unfold upd at he'
    by_cases x : s' = s
    · rw [if_pos x] at he'
      cases he'
      exact hr
    · rw [if_neg x] at he'
      obtain ⟨a1, a2, a3⟩ := h.rows s' e' hs' he'
      obtain ⟨cur, a4, a5⟩ := a2
      exact ⟨a1, ⟨cur, lt a4 (.inr (.inr (by omega))) (notM a4), a5⟩, a3⟩
theorem get_push {w : World} {o : Obj} {k n : Nat} (hn : w.heap.size = n) : (w.alloc o).heap[k]? = if k = n then some o else w.heap[k]? := by
  show (w.heap.push o)[k]? = _
  rw [Array.getElem?_push, hn]
theorem Tab.start (w : World) (o5 : Obj) (es : Array MapEntry) (cl : Nat) (v : Value) (size bytes : Int) (hg : StrKeys es.toList) (hk : ∀ k, lookS es.toList k = if k = keep then some v else none) (hv : ∃ a b, v = .agg #[.string a, .string b]) :
    Tab w.heap.size w ((setBlock (((((((w.alloc (.cells #[.string (rS 0), .string (rS 1)] 26)).alloc (.cells #[.string (nS 0), .string (nS 1), .string (nS 2), .string (nS 3)] 27)).alloc (.cells (presA fun _ => none) 28)).alloc (.cells (modelA fun _ => none) 29)).alloc (.cells (rnpsA fun _ => none) 28)).alloc (.map #[] 0)).alloc o5) (w.heap.size + 6) (.map es cl)).alloc (.cells (pitC (w.heap.size + 5) (w.heap.size + 6) 0 size 0 0 bytes) 39)) (fun _ => none) (fun _ => none) size bytes := by
  obtain ⟨W7, hW7⟩ : ∃ W7, W7 = ((((((w.alloc (.cells #[.string (rS 0), .string (rS 1)] 26)).alloc (.cells #[.string (nS 0), .string (nS 1), .string (nS 2), .string (nS 3)] 27)).alloc (.cells (presA fun _ => none) 28)).alloc (.cells (modelA fun _ => none) 29)).alloc (.cells (rnpsA fun _ => none) 28)).alloc (.map #[] 0)).alloc o5 := ⟨_, rfl⟩
  have s7 : W7.heap.size = w.heap.size + 7 := by rw [hW7]; simp
  have g : ∀ k, W7.heap[k]? = if k = w.heap.size + 6 then some o5 else if k = w.heap.size + 5 then some (.map #[] 0) else if k = w.heap.size + 4 then some (.cells (rnpsA fun _ => none) 28) else if k = w.heap.size + 3 then some (.cells (modelA fun _ => none) 29) else if k = w.heap.size + 2 then some (.cells (presA fun _ => none) 28) else if k = w.heap.size + 1 then some (.cells #[.string (nS 0), .string (nS 1), .string (nS 2), .string (nS 3)] 27) else if k = w.heap.size then some (.cells #[.string (rS 0), .string (rS 1)] 26) else w.heap[k]? := fun k => by
    rw [hW7, get_push (n := w.heap.size + 6) (by simp), get_push (n := w.heap.size + 5) (by simp), get_push (n := w.heap.size + 4) (by simp), get_push (n := w.heap.size + 3) (by simp), get_push (n := w.heap.size + 2) (by simp), get_push (n := w.heap.size + 1) (by simp), get_push (n := w.heap.size) rfl]
  rw [← hW7]
  have s8 : (setBlock W7 (w.heap.size + 6) (.map es cl)).heap.size = w.heap.size + 7 := by show (W7.heap.setIfInBounds _ _).size = _; simp [s7]
  have b : ∀ k, ((setBlock W7 (w.heap.size + 6) (.map es cl)).alloc (.cells (pitC (w.heap.size + 5) (w.heap.size + 6) 0 size 0 0 bytes) 39)).heap[k]? = if k = w.heap.size + 7 then some (.cells (pitC (w.heap.size + 5) (w.heap.size + 6) 0 size 0 0 bytes) 39) else if w.heap.size + 6 = k then some (.map es cl) else W7.heap[k]? := fun k => by
    rw [get_push s8, setBlock_block, s7]
    simp
  have e : Below w.heap.size w ((setBlock W7 (w.heap.size + 6) (.map es cl)).alloc (.cells (pitC (w.heap.size + 5) (w.heap.size + 6) 0 size 0 0 bytes) 39)) := by
    refine ⟨?_, ?_, ?_, by simp [s8]; omega, fun k hk => ?_⟩
    · rw [hW7]; rfl
    · rw [hW7]; rfl
    · rw [hW7]; rfl
    · rw [b, if_neg (by omega), if_neg (by omega), g]
      simp only [show ¬ k = w.heap.size + 6 by omega, show ¬ k = w.heap.size + 5 by omega, show ¬ k = w.heap.size + 4 by omega, show ¬ k = w.heap.size + 3 by omega, show ¬ k = w.heap.size + 2 by omega, show ¬ k = w.heap.size + 1 by omega, show ¬ k = w.heap.size by omega, if_false]
  refine ⟨e, ?_, ?_, ?_, ?_, ?_, ?_, ⟨#[], 0, ?_, StrKeys.nil, fun r _ => by simp [lookS]⟩, ⟨es, cl, ?_, hg, by rw [hk]; simp, fun s _ => by rw [hk, if_neg tS_keep]; rfl, fun k v' hk' => by rw [hk] at hk'; by_cases x : k = keep; rw [if_pos x] at hk'; cases hk'; exact hv; rw [if_neg x] at hk'; cases hk'⟩, fun _ _ _ _ _ => rfl, fun r m _ h => (by cases h), fun m h => (by cases h), fun s e _ h => (by cases h)⟩
  all_goals
    rw [b]
    first
      | (simp; done)
      | (rw [g]; simp)
end Go.Proofs.Ybulkcfbe.tab
