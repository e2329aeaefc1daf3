/- Maps keyed by pointers to blocks of the call's own: what insertion, look-up, length and a step of a range do. -/
import Derived.Test.YbulkcfcgRows
import Derived.Test.YbulkcfcgLocks
import Derived.Conc.MuLone
import Derived.WalkKit
import Derived.ProofKit
import Derived.OpenShut
import Derived.WalkSpells
import Derived.WalkLawsBesides
import Derived.Deep.QuietTactic
import Derived.BigQuiet
import Derived.Deep.LoopGhost
import Derived.Deep.RegionWith
import Derived.LaidEqlPtr
import Derived.Maps.RangeRun
import Derived.Laws.IdiomRangeMap
namespace Go.Proofs.Ybulkcfcg.pm
open Go.ChangeShapes Go.WideShapes Go.ChangeAt Go.RowKit
open Go.ChangeMaps (setBlock)
set_option linter.unusedVariables false
abbrev ptr (b : Nat) : Value := .pointer (some ⟨b, 0, none⟩)
def ent (b i : Nat) : MapEntry := ⟨ptr b, .agg #[], i⟩
def entries (f : Nat → Nat) (k : Nat) : List MapEntry := (List.range k).map fun i => ent (f i) i
/-- Block b is a plain row of cells. -/
def Plain (w : World) (b : Nat) : Prop := ∃ c t, w.heap[b]? = some (.cells c t (0, 0))
theorem size52 : (Yba.prog.info? 52).map (·.size) = some 35 := by kernel_rfl
theorem equal_ptr (w : World) (b b' : Nat) (hb : Plain w b) (hb' : Plain w b') : (Op.equal 24 (ptr b) (ptr b')).run Yba.prog w = .ok (decide (b = b')) w := by
  have h := size52
  cases hj : Yba.prog.info? 52 with
  | none => rw [hj] at h; simp at h
  | some j =>
    rw [hj] at h
    simp at h
    have key : ∀ d : Nat, (Op.equalIn (d + 1) 24 (ptr b) (ptr b')).run Yba.prog w = .ok (decide (b = b')) w := fun d => by
      by_cases e : b = b'
      · subst e
        simp [Op.equalIn, run_underlying Yba.underlying24, sizeOf, typeInfo, hj, run_sameAddr_same]
      · obtain ⟨c, t, h1⟩ := hb
        obtain ⟨c', t', h2⟩ := hb'
        have hn : (⟨b, 0, none⟩ : Addr) ≠ ⟨b', 0, none⟩ := by intro x; cases x; exact e rfl
        simp [Op.equalIn, run_underlying Yba.underlying24, sizeOf, typeInfo, hj, h, run_sameAddr_other w hn h1 h2, e]
    exact key 9999
theorem findAsking_none (w : World) (b : Nat) (hb : Plain w b) : ∀ (es : List MapEntry) (i : Nat), (∀ e ∈ es, ∃ b', e.key = ptr b' ∧ Plain w b' ∧ b ≠ b') → (Instr.findAsking 24 (ptr b) es i).run Yba.prog w = .ok none w
  | [], i, _ => rfl
  | e :: es, i, h => by
    obtain ⟨b', hk, hp, hne⟩ := h e (by simp)
    have ih := findAsking_none w b hb es (i + 1) fun x hx => h x (by simp [hx])
    simp only [Instr.findAsking, hk, Sem.run_bind, equal_ptr w b b' hb hp, Result.andThen_ok, decide_eq_false hne, Bool.false_eq_true, if_false, ih]
theorem findAsking_some (w : World) (b : Nat) (hb : Plain w b) (u : MapEntry) (hu : u.key = ptr b) (post : List MapEntry) : ∀ (es : List MapEntry) (i : Nat), (∀ e ∈ es, ∃ b', e.key = ptr b' ∧ Plain w b' ∧ b ≠ b') → (Instr.findAsking 24 (ptr b) (es ++ u :: post) i).run Yba.prog w = .ok (some (i + es.length, u.val)) w
  | [], i, _ => by
    simp only [List.nil_append, Instr.findAsking, hu, Sem.run_bind, equal_ptr w b b hb hb, Result.andThen_ok, decide_true, if_true]
    rfl
  | e :: es, i, h => by
    obtain ⟨b', hk, hp, hne⟩ := h e (by simp)
    have ih := findAsking_some w b hb u hu post es (i + 1) fun x hx => h x (by simp [hx])
    simp only [List.cons_append, Instr.findAsking, hk, Sem.run_bind, equal_ptr w b b' hb hp, Result.andThen_ok, decide_eq_false hne, Bool.false_eq_true, if_false, ih, List.length_cons]
    congr 3
    omega
theorem findKey_none (w : World) (b : Nat) (hb : Plain w b) (es : List MapEntry) (h : ∀ e ∈ es, ∃ b', e.key = ptr b' ∧ Plain w b' ∧ b ≠ b') : (Instr.findKey 24 (ptr b) es).run Yba.prog w = .ok none w := by
  cases es with
  | nil => simp [Instr.findKey, run_underlying Yba.underlying24, Instr.findNow]
  | cons e es =>
    have hn : Instr.findNow (.pointer 52) (ptr b) (e :: es) 0 = none := by simp [Instr.findNow, Instr.sameNow]
    simp only [Instr.findKey, Sem.run_bind, run_underlying Yba.underlying24, Result.andThen_ok, hn]
    exact findAsking_none w b hb _ 0 h
theorem findKey_some (w : World) (b : Nat) (hb : Plain w b) (u : MapEntry) (hu : u.key = ptr b) (es post : List MapEntry) (h : ∀ e ∈ es, ∃ b', e.key = ptr b' ∧ Plain w b' ∧ b ≠ b') : (Instr.findKey 24 (ptr b) (es ++ u :: post)).run Yba.prog w = .ok (some (0 + es.length, u.val)) w := by
  have hn : Instr.findNow (.pointer 52) (ptr b) (es ++ u :: post) 0 = none := by
    cases es with
    | nil => simp [Instr.findNow, Instr.sameNow]
    | cons e es =>
      simp [Instr.findNow, Instr.sameNow]
  simp only [Instr.findKey, Sem.run_bind, run_underlying Yba.underlying24, Result.andThen_ok, hn]
  exact findAsking_some w b hb u hu post es 0 h
theorem checkKey_ptr (w : World) (b : Nat) (x : Bool) : (Instr.checkKey x 10000 24 (ptr b)).run Yba.prog w = .ok () w := by
  unfold Instr.checkKey
  simp only [Sem.run_bind, run_underlying Yba.underlying24, Result.andThen]
  rfl
/-- 'm[p] = struct{}{}', p a block that no key of the map leads to. -/
theorem run_insert (w : World) (m b clock : Nat) (es : Array MapEntry) (hm : w.heap[m]? = some (.map es clock)) (hb : Plain w b) (h : ∀ e ∈ es.toList, ∃ b', e.key = ptr b' ∧ Plain w b' ∧ b ≠ b') :
    (Instr.mapUpdate 37 (.map (some m)) (ptr b) (.agg #[])).run Yba.prog w = .ok () (setBlock w m (.map (es.push ⟨ptr b, .agg #[], clock⟩) (clock + 1))) := by
  simp only [Instr.mapUpdate, Sem.run_bind, run_underlying Yba.underlying37, Result.andThen_ok, MapKept.run_getObj_map hm, checkKey_ptr, findKey_none w b hb es.toList h, MapKept.run_setObj_map _ hm]
  rfl
/-- '_, ok := m[p]', p a key of the map. -/
theorem run_look (w : World) (m b clock : Nat) (es : Array MapEntry) (pre post : List MapEntry) (u : MapEntry) (hm : w.heap[m]? = some (.map es clock)) (he : es.toList = pre ++ u :: post) (hu : u.key = ptr b) (hb : Plain w b) (h : ∀ e ∈ pre, ∃ b', e.key = ptr b' ∧ Plain w b' ∧ b ≠ b') :
    (Instr.lookup 37 (.map (some m)) (ptr b) true).run Yba.prog w = .ok (.tuple #[u.val, .bool true]) w := by
  have hf := findKey_some w b hb u hu pre post h
  rw [← he] at hf
  simp [Instr.lookup, run_underlying Yba.underlying37, MapKept.run_getObj_map hm, checkKey_ptr, hf]
end Go.Proofs.Ybulkcfcg.pm
