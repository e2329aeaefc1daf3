/- Maps keyed by strings, as lists of entries: what lookS-up, assignment, deletion and length do. -/
import Derived.Test.YbulkcfbeRows
import Derived.WalkKit
import Derived.ProofKit
import Derived.OpenShut
import Derived.WalkSpells
import Derived.WalkLawsBesides
import Derived.Deep.QuietTactic
import Derived.BigQuiet
import Derived.Deep.LoopGhost
import Derived.Deep.RegionWith
import Derived.Deep.DeepCutAuto
import Derived.Maps.AppendAt
import Derived.Maps.RangeRun
import Derived.Below
namespace Go.Proofs.Ybulkcfbe.sm
open Go.ChangeShapes Go.WideShapes Go.ChangeAt Go.RowKit
open Go.ChangeMaps (setBlock)
set_option linter.unusedVariables false
theorem lt_heap {w : World} {b : Nat} {o : Obj} (h : w.heap[b]? = some o) : b < w.heap.size := by
  rcases Nat.lt_or_ge b w.heap.size with h' | h'
  · exact h'
  · rw [Array.getElem?_eq_none h'] at h; cases h
theorem setBlock_block {w : World} {m k : Nat} {o : Obj} : (setBlock w m o).heap[k]? = if m = k then (if m < w.heap.size then some o else none) else w.heap[k]? := by
  show (w.heap.setIfInBounds m o)[k]? = _
  rw [Array.getElem?_setIfInBounds]
theorem beq_dec (a b : ByteArray) : (a == b) = decide (a = b) := by
  cases a with
  | mk x =>
    cases b with
    | mk y =>
      show (x == y) = _
      by_cases h : x = y
      · subst h; simp
      · have : ¬ ByteArray.mk x = ByteArray.mk y := fun e => h (by cases e; rfl)
        simp [h, this]
def keyIs (v : Value) (s : ByteArray) : Bool := match v with
  | .string k => k == s
  | _ => false
theorem keyIs_iff {v : Value} {s : ByteArray} : keyIs v s = true ↔ v = .string s := by
  unfold keyIs
  split
  · rw [beq_dec]; simp
  · rename_i h
    constructor
    · intro x; cases x
    · intro x; exact absurd x (h s)
/-- What a list of entries says of a string. -/
def lookS : List MapEntry → ByteArray → Option Value
  | [], _ => none
  | e :: es, s => if keyIs e.key s = true then some e.val else lookS es s
def spot : List MapEntry → ByteArray → Nat → Option (Nat × Value)
  | [], _, _ => none
  | e :: es, s, i => if keyIs e.key s = true then some (i, e.val) else spot es s (i + 1)
theorem keyIs_str {k s : ByteArray} : keyIs (.string k) s = decide (k = s) := by
  exact beq_dec k s
theorem look_pos {e : MapEntry} {es : List MapEntry} {s : ByteArray} (h : e.key = .string s) : lookS (e :: es) s = some e.val := if_pos (keyIs_iff.2 h)
theorem look_neg {e : MapEntry} {es : List MapEntry} {s : ByteArray} (h : ¬ e.key = .string s) : lookS (e :: es) s = lookS es s := if_neg (fun x => h (keyIs_iff.1 x))
theorem spot_pos {e : MapEntry} {es : List MapEntry} {s : ByteArray} {i : Nat} (h : e.key = .string s) : spot (e :: es) s i = some (i, e.val) := if_pos (keyIs_iff.2 h)
theorem spot_neg {e : MapEntry} {es : List MapEntry} {s : ByteArray} {i : Nat} (h : ¬ e.key = .string s) : spot (e :: es) s i = spot es s (i + 1) := if_neg (fun x => h (keyIs_iff.1 x))
/-- All keys are strings, no two the same. -/
def StrKeys (es : List MapEntry) : Prop := (∀ e ∈ es, ∃ s, e.key = .string s) ∧ (es.map (·.key)).Nodup
theorem StrKeys.nil : StrKeys [] := ⟨by simp, by simp⟩
theorem findNow_str (s : ByteArray) : ∀ (es : List MapEntry) (i : Nat), (∀ e ∈ es, ∃ s, e.key = .string s) → Instr.findNow .string (.string s) es i = some (spot es s i)
  | [], i, _ => rfl
  | e :: es, i, h => by
    obtain ⟨k, hk⟩ := h e (by simp)
    have ih := findNow_str s es (i + 1) fun x hx => h x (by simp [hx])
    unfold Instr.findNow
    by_cases hs : s = k
    · subst hs; rw [spot_pos hk, hk]; simp only [Instr.sameNow, beq_dec, decide_true]
    · have h1 : (s == k) = false := by rw [beq_dec]; simpa using hs
      rw [spot_neg (by rw [hk]; simp only [Value.string.injEq]; exact fun x => hs x.symm), hk]
      simp only [Instr.sameNow, h1, ih]
theorem look_spot (s : ByteArray) : ∀ (es : List MapEntry) (i : Nat), lookS es s = (spot es s i).map (·.2)
  | [], _ => rfl
  | e :: es, i => by
    by_cases h : e.key = .string s
    · rw [look_pos h, spot_pos h]; rfl
    · rw [look_neg h, spot_neg h]; exact look_spot s es (i + 1)
/-- Where it stands. -/
theorem spot_some (s : ByteArray) : ∀ (es : List MapEntry) (i j : Nat) (v : Value), spot es s i = some (j, v) → ∃ pre e post, es = pre ++ e :: post ∧ j = i + pre.length ∧ e.key = .string s ∧ e.val = v ∧ ∀ x ∈ pre, x.key ≠ .string s
  | [], _, _, _, h => by cases h
  | e :: es, i, j, v, h => by
    by_cases hk : e.key = .string s
    · rw [spot_pos hk] at h
      cases h
      exact ⟨[], e, es, rfl, rfl, hk, rfl, by simp⟩
    · rw [spot_neg hk] at h
      obtain ⟨pre, e', post, rfl, rfl, h1, h2, h3⟩ := spot_some s es (i + 1) j v h
      refine ⟨e :: pre, e', post, rfl, by simp; omega, h1, h2, ?_⟩
      intro x hx
      rcases List.mem_cons.1 hx with rfl | hx
      · exact hk
      · exact h3 x hx
theorem look_none_iff {s : ByteArray} {es : List MapEntry} : lookS es s = none ↔ ∀ x ∈ es, x.key ≠ .string s := by
  induction es with
  | nil => simp [lookS]
  | cons e es ih =>
    by_cases h : e.key = .string s
    · rw [look_pos h]; simp [h]
    · rw [look_neg h, ih]; simp [h]
theorem look_append {s : ByteArray} {a b : List MapEntry} : lookS (a ++ b) s = (lookS a s).or (lookS b s) := by
  induction a with
  | nil => simp [lookS]
  | cons e es ih =>
    simp only [List.cons_append]
    by_cases h : e.key = .string s
    · rw [look_pos h, look_pos h]; rfl
    · rw [look_neg h, look_neg h, ih]
theorem modify_at (f : MapEntry → MapEntry) : ∀ (pre : List MapEntry) (x : MapEntry) (post : List MapEntry), (pre ++ x :: post).modify pre.length f = pre ++ f x :: post
  | [], _, _ => rfl
  | a :: pre, x, post => by
    have ih := modify_at f pre x post
    simp only [List.cons_append, List.length_cons, List.modify_succ_cons, ih]
section
variable {P : Program} {w : World} {t e : TypeId} {m clock : Nat} {es : Array MapEntry} {z : Value}
theorem checkKey_str (hk : P.underlying 9 = some .string) (w : World) (s : ByteArray) (x : Bool) : (Instr.checkKey x 10000 9 (.string s)).run P w = .ok () w := by
  unfold Instr.checkKey
  simp only [Sem.run_bind, run_underlying hk, Result.andThen]
  rfl
theorem findKey_str (hk : P.underlying 9 = some .string) (hg : StrKeys es.toList) (s : ByteArray) : (Instr.findKey 9 (.string s) es.toList).run P w = .ok (spot es.toList s 0) w := by
  simp only [Instr.findKey, Sem.run_bind, run_underlying hk, Result.andThen_ok, findNow_str s es.toList 0 hg.1]
  rfl
theorem run_lookup (hk : P.underlying 9 = some .string) (ht : P.underlying t = some (.map 9 e)) (hz : (zeroValue e).run P w = .ok z w) (hm : w.heap[m]? = some (.map es clock)) (hg : StrKeys es.toList) (s : ByteArray) (c : Bool) :
    (Instr.lookup t (.map (some m)) (.string s) c).run P w = .ok (if c then .tuple #[(lookS es.toList s).getD z, .bool (lookS es.toList s).isSome] else (lookS es.toList s).getD z) w := by
  rw [look_spot s es.toList 0]
  simp only [Instr.lookup, Sem.run_bind, run_underlying ht, Result.andThen_ok, MapKept.run_getObj_map hm, checkKey_str hk, findKey_str hk hg, Sem.run_pure]
  cases h : spot es.toList s 0 with
  | none => simp [hz]
  | some p => simp
theorem run_lookup_nil (hk : P.underlying 9 = some .string) (ht : P.underlying t = some (.map 9 e)) (hz : (zeroValue e).run P w = .ok z w) (s : ByteArray) (c : Bool) :
    (Instr.lookup t (.map none) (.string s) c).run P w = .ok (if c then .tuple #[z, .bool false] else z) w := by
  have hf := findKey_str (w := w) (es := #[]) hk StrKeys.nil s
  simp only [Instr.lookup, Sem.run_bind, run_underlying ht, Result.andThen_ok, checkKey_str hk, Sem.run_pure, hf, spot]
  simp [hz]
/-- 'm[s] = v'. -/
theorem run_update (hk : P.underlying 9 = some .string) (ht : P.underlying t = some (.map 9 e)) (hm : w.heap[m]? = some (.map es clock)) (hg : StrKeys es.toList) (s : ByteArray) (v : Value) :
    ∃ es' clock', (Instr.mapUpdate t (.map (some m)) (.string s) v).run P w = .ok () (setBlock w m (.map es' clock')) ∧ StrKeys es'.toList ∧ (∀ k, lookS es'.toList k = if k = s then some v else lookS es.toList k) ∧
      (lookS es.toList s = none → es' = es.push ⟨.string s, v, clock⟩ ∧ clock' = clock + 1) := by
  cases h : spot es.toList s 0 with
  | none =>
    have hl : lookS es.toList s = none := by rw [look_spot s _ 0, h]; rfl
    have hno := look_none_iff.1 hl
    refine ⟨es.push ⟨.string s, v, clock⟩, clock + 1, ?_, ⟨?_, ?_⟩, fun k => ?_, fun _ => ⟨rfl, rfl⟩⟩
    · simp only [Instr.mapUpdate, Sem.run_bind, run_underlying ht, Result.andThen_ok, MapKept.run_getObj_map hm, checkKey_str hk, findKey_str hk hg, h, MapKept.run_setObj_map _ hm]
      rfl
    · intro x hx
      rw [Array.toList_push, List.mem_append] at hx
      rcases hx with hx | hx
      · exact hg.1 x hx
      · simp at hx; subst hx; exact ⟨s, rfl⟩
    · rw [Array.toList_push, List.map_append, List.nodup_append]
      refine ⟨hg.2, by simp, ?_⟩
      intro a ha b hb
      obtain ⟨x, hx, rfl⟩ := List.mem_map.1 ha
      simp at hb
      subst hb
      exact hno x hx
    · rw [Array.toList_push, look_append]
      by_cases e : k = s
      · subst e; rw [hl, look_pos rfl]; simp
      · rw [look_neg (by simp only [Value.string.injEq]; exact fun x => e x.symm)]
        simp [lookS, e]
  | some p =>
    obtain ⟨j, v0⟩ := p
    obtain ⟨pre, e0, post, he, hj, hk0, hv0, hpre⟩ := spot_some s _ _ _ _ h
    have hl : lookS es.toList s = some v0 := by rw [look_spot s _ 0, h]; rfl
    have hj' : j = pre.length := by omega
    have hes : es = (pre ++ e0 :: post).toArray := by rw [← he]
    have hmod : (es.modify j fun e => { e with key := .string s, val := v }).toList = pre ++ { e0 with key := .string s, val := v } :: post := by
      rw [hj', hes]
      simp only [List.modify_toArray]
      exact modify_at _ pre e0 post
    refine ⟨es.modify j fun e => { e with key := .string s, val := v }, clock, ?_, ?_, fun k => ?_, fun h0 => by rw [hl] at h0; cases h0⟩
    · have hold : ((es[j]?).map (·.key)).getD (.string s) = .string s := by
        rw [hes, hj']; simp [hk0]
      have hst : (Instr.keyThatStays (.string s) (.string s)).run P w = .ok (.string s) w := by
        simp [Instr.keyThatStays, Instr.sameBits, beq_dec]
      simp only [Instr.mapUpdate, Sem.run_bind, run_underlying ht, Result.andThen_ok, MapKept.run_getObj_map hm, checkKey_str hk, findKey_str hk hg, h, hold, hst, MapKept.run_setObj_map _ hm]
      rfl
    · rw [hmod]
      rw [he] at hg
      refine ⟨fun x hx => ?_, ?_⟩
      · rcases List.mem_append.1 hx with hx | hx
        · exact hg.1 x (by simp [hx])
        · rcases List.mem_cons.1 hx with rfl | hx
          · exact ⟨s, rfl⟩
          · exact hg.1 x (by simp [hx])
      · have := hg.2
        simp only [List.map_append, List.map_cons, hk0] at this ⊢
        exact this
    · rw [hmod, he]
      simp only [look_append]
      by_cases e : k = s
      · subst e
        rw [look_none_iff.2 hpre, look_pos rfl]
        simp
      · have : ¬ (Value.string s = Value.string k) := by simp only [Value.string.injEq]; exact fun x => e x.symm
        rw [look_neg (by exact this), look_neg (by rw [hk0]; exact this), if_neg e]
/-- 'delete(m, s)'. -/
theorem run_delete (hk : P.underlying 9 = some .string) (ht : P.underlying t = some (.map 9 e)) (hm : w.heap[m]? = some (.map es clock)) (hg : StrKeys es.toList) (s : ByteArray) (ty : TypeId) :
    ∃ es', (Builtin.delete_ #[t, 9] ty #[.map (some m), .string s]).run P w = .ok (.tuple #[]) (setBlock w m (.map es' clock)) ∧ StrKeys es'.toList ∧ (∀ k, lookS es'.toList k = if k = s then none else lookS es.toList k) ∧ es'.size = es.size - (if (lookS es.toList s).isSome then 1 else 0) := by
  cases h : spot es.toList s 0 with
  | none =>
    have hl : lookS es.toList s = none := by rw [look_spot s _ 0, h]; rfl
    refine ⟨es, ?_, hg, fun k => ?_, by simp [hl]⟩
    · simp [Builtin.delete_, Sem.run_bind, run_underlying ht, Result.andThen_ok, MapKept.run_getObj_map hm, checkKey_str hk, findKey_str hk hg, h, MapKept.run_setObj_map _ hm]
      rfl
    · by_cases e : k = s
      · subst e; simp [hl]
      · simp [e]
  | some p =>
    obtain ⟨j, v0⟩ := p
    obtain ⟨pre, e0, post, he, hj, hk0, hv0, hpre⟩ := spot_some s _ _ _ _ h
    have hl : lookS es.toList s = some v0 := by rw [look_spot s _ 0, h]; rfl
    have hj' : j = pre.length := by omega
    have hes : es = (pre ++ e0 :: post).toArray := by rw [← he]
    have hmod : (es.eraseIdxIfInBounds j).toList = pre ++ post := by
      rw [hj', hes]
      simp [List.eraseIdx_append_of_length_le]
    have hgL := hg
    rw [he] at hgL
    refine ⟨es.eraseIdxIfInBounds j, ?_, ?_, fun k => ?_, ?_⟩
    · simp [Builtin.delete_, Sem.run_bind, run_underlying ht, Result.andThen_ok, MapKept.run_getObj_map hm, checkKey_str hk, findKey_str hk hg, h, MapKept.run_setObj_map _ hm]
      rfl
    · rw [hmod]
      refine ⟨fun x hx => hgL.1 x ?_, ?_⟩
      · rcases List.mem_append.1 hx with hx | hx
        · simp [hx]
        · simp [hx]
      · have := hgL.2
        simp only [List.map_append, List.map_cons, List.nodup_append, List.nodup_cons] at this ⊢
        exact ⟨this.1, this.2.1.2, fun a ha b hb => this.2.2 a ha b (by simp [hb])⟩
    · rw [hmod, he]
      simp only [look_append]
      by_cases e : k = s
      · subst e
        have hpost : lookS post k = none := by
          rw [look_none_iff]
          intro x hx hkx
          have := hgL.2
          simp only [List.map_append, List.map_cons, List.nodup_append, List.nodup_cons] at this
          exact this.2.1.1 (List.mem_map.2 ⟨x, hx, by rw [hkx, hk0]⟩)
        rw [look_none_iff.2 hpre, hpost]
        simp
      · have : ¬ (Value.string s = Value.string k) := by simp only [Value.string.injEq]; exact fun x => e x.symm
        rw [look_neg (e := e0) (by rw [hk0]; exact this), if_neg e]
    · have h1 : (es.eraseIdxIfInBounds j).size = (pre ++ post).length := by rw [← hmod, Array.length_toList]
      have h2 : es.size = (pre ++ e0 :: post).length := by rw [← he]; simp
      rw [h1, h2, hl]
      simp
end
end Go.Proofs.Ybulkcfbe.sm
