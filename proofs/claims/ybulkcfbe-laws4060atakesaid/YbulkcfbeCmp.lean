/- The regions that compare: their frames and invariants. -/
import Derived.Test.YbulkcfbeCall
import Derived.Test.YbulkcfbeWant
namespace Go.Proofs.Ybulkcfbe.tab
open Go.ChangeShapes Go.WideShapes Go.ChangeAt Go.RowKit
open Go.Proofs.Ybulkcfbe.tm Go.Proofs.Ybulkcfbe.sm Go.Proofs.Ybulkcfbe.pd Go.Proofs.Ybulkcfbe.inv
open Go.ChangeMaps (setBlock)
set_option linter.unusedVariables false
/-- A region whose values are all known ahead: what it has written, and a world that has only grown. -/
structure Known (fr' : (Nat → Value) → (Nat → Value) → Act) (lo n : Nat) (val : Nat → Value) (C : Nat → Value) (w0 : World) (listed : Array Bool) (a : Act) (W : World) : Prop where
  U : ∃ U, a = fr' C U ∧ (∀ j, j < n → listed.getD j false = true → U (lo + j) = val j) ∧ Below w0.heap.size w0 W
theorem Known.next {fr' : (Nat → Value) → (Nat → Value) → Act} {lo n : Nat} {val : Nat → Value} {C : Nat → Value} {w0 : World} {listed : Array Bool} {U : Nat → Value} {W W' : World} (hv : ∀ j, j < n → listed.getD j false = true → U (lo + j) = val j) (hb : Below w0.heap.size w0 W) {i : Nat} (v : Value) (hval : v = val i) (hW : Below W.heap.size W W') {a : Act} (ha : a = fr' C (setU U (lo + i) v)) :
    Known fr' lo n val C w0 (listed.setIfInBounds i true) a W' := by
  refine ⟨setU U (lo + i) v, ha, fun j hj hL => ?_, hb.trans (hW.mono hb.size)⟩
  unfold setU
  by_cases e : j = i
  · subst e; rw [if_pos rfl]; exact hval
  · rw [if_neg (by omega)]
    rw [getD_set (fun x => e x.symm)] at hL
    exact hv j hj hL
set_option maxRecDepth 100000 in
/-- The law's frame: C what the region leaves alone, U what it writes. -/
def fr66 (C U : Nat → Value) : Act := ⟨#[C 0, C 1, C 2, C 3, C 4, C 5, C 6, C 7, C 8, C 9, C 10, C 11, C 12, C 13, C 14, C 15, C 16, C 17, C 18, C 19, C 20, C 21, C 22, C 23, C 24, C 25, C 26, C 27, C 28, C 29, C 30, C 31, C 32, C 33, C 34, C 35, C 36, C 37, C 38, C 39, C 40, C 41, C 42, C 43, C 44, C 45, C 46, C 47, C 48, C 49, C 50, C 51, C 52, C 53, C 54, C 55, C 56, C 57, C 58, C 59, C 60, C 61, C 62, C 63, C 64, C 65, C 66, C 67, C 68, C 69, C 70, C 71, C 72, C 73, C 74, C 75, C 76, C 77, C 78, C 79, C 80, C 81, C 82, C 83, C 84, C 85, C 86, C 87, C 88, C 89, C 90, C 91, C 92, C 93, C 94, C 95, C 96, C 97, C 98, C 99, C 100, C 101, C 102, C 103, C 104, C 105, C 106, C 107, C 108, C 109, C 110, C 111, C 112, C 113, C 114, C 115, C 116, C 117, C 118, C 119, C 120, C 121, C 122, C 123, C 124, C 125, C 126, C 127, C 128, C 129, C 130, C 131, C 132, C 133, C 134, C 135, C 136, C 137, C 138, C 139, C 140, C 141, C 142, C 143, C 144, C 145, C 146, C 147, C 148, C 149, C 150, C 151, C 152, C 153, C 154, C 155, C 156, C 157, C 158, C 159, C 160, C 161, C 162, C 163, C 164, C 165, C 166, C 167, C 168, C 169, C 170, C 171, C 172, C 173, C 174, C 175, C 176, C 177, C 178, C 179, C 180, C 181, C 182, C 183, C 184, C 185, C 186, C 187, C 188, C 189, C 190, C 191, C 192, C 193, C 194, C 195, C 196, C 197, C 198, C 199, C 200, C 201, C 202, C 203, C 204, C 205, C 206, C 207, C 208, C 209, C 210, C 211, C 212, C 213, C 214, C 215, C 216, C 217, C 218, C 219, C 220, C 221, C 222, C 223, C 224, C 225, C 226, C 227, C 228, C 229, C 230, C 231, C 232, C 233, C 234, C 235, C 236, C 237, C 238, C 239, C 240, C 241, C 242, C 243, C 244, C 245, C 246, C 247, C 248, C 249, C 250, C 251, C 252, C 253, C 254, C 255, C 256, C 257, C 258, C 259, C 260, C 261, C 262, C 263, C 264, C 265, C 266, C 267, C 268, C 269, C 270, C 271, C 272, U 273, U 274, U 275, U 276, U 277, U 278, U 279, U 280, U 281, U 282, U 283, U 284, U 285, U 286, U 287, U 288, U 289, U 290, U 291, U 292, U 293, U 294, U 295, U 296, U 297, U 298, U 299, U 300, U 301, U 302, U 303, C 304, C 305, C 306, C 307, C 308, C 309, C 310, C 311, C 312, C 313, C 314, C 315, C 316, C 317, C 318, C 319, C 320, C 321, C 322, C 323, C 324, C 325, C 326, C 327, C 328, C 329, C 330, C 331, C 332, C 333, C 334, C 335, C 336, C 337, C 338, C 339, C 340, C 341, C 342, C 343, C 344, C 345, C 346, C 347, C 348, C 349, C 350, C 351, C 352, C 353, C 354, C 355, C 356, C 357, C 358, C 359, C 360, C 361, C 362, C 363, C 364, C 365, C 366, C 367, C 368, C 369, C 370, C 371, C 372, C 373, C 374, C 375], []⟩
set_option maxRecDepth 100000 in
theorem fr66_range (C : Nat → Value) : (fr66 C C).tmps = ((List.range 376).map C).toArray := rfl
theorem fr66_of {a : Act} (hs : a.tmps.size = 376) (hd : a.defers = []) : fr66 (fun k => a.tmps.getD k undef) (fun k => a.tmps.getD k undef) = a := by
  have h1 := fr66_range (fun k => a.tmps.getD k undef)
  have h2 : ((List.range 376).map fun k => a.tmps.getD k undef).toArray = a.tmps := by
    apply Array.ext
    · simp [hs]
    · intro i h1 h2
      simp [Array.getD, h2]
  rw [h2] at h1
  cases a with
  | mk t d =>
    cases hd
    have : fr66 (fun k => t.getD k undef) (fun k => t.getD k undef) = ⟨(fr66 (fun k => t.getD k undef) (fun k => t.getD k undef)).tmps, []⟩ := rfl
    rw [this, h1]
theorem fr66_start {P : Program} {md : Region.Mode} {ops : Array Oper} {Q : Exit → Act → World → Prop} {fuel : Nat} {listed : Array Bool} {a : Act} {W : World} (hs : a.tmps.size = 376) (hd : a.defers = [])
    (h : ∀ C : Nat → Value, (∀ k, C k = a.tmps.getD k undef) → wpAny P md ops Q fuel listed (fr66 C C) W) : wpAny P md ops Q fuel listed a W := by
  have := h (fun k => a.tmps.getD k undef) (fun _ => rfl)
  rw [fr66_of hs hd] at this
  exact this
set_option maxRecDepth 100000 in
theorem fr66_set (C U : Nat → Value) (v : Value) {k : Nat} (hk : (273 ≤ k ∧ k ≤ 303)) : (⟨(fr66 C U).tmps.setIfInBounds k v, (fr66 C U).defers⟩ : Act) = fr66 C (setU U k v) := by
  have : k = 273 ∨ k = 274 ∨ k = 275 ∨ k = 276 ∨ k = 277 ∨ k = 278 ∨ k = 279 ∨ k = 280 ∨ k = 281 ∨ k = 282 ∨ k = 283 ∨ k = 284 ∨ k = 285 ∨ k = 286 ∨ k = 287 ∨ k = 288 ∨ k = 289 ∨ k = 290 ∨ k = 291 ∨ k = 292 ∨ k = 293 ∨ k = 294 ∨ k = 295 ∨ k = 296 ∨ k = 297 ∨ k = 298 ∨ k = 299 ∨ k = 300 ∨ k = 301 ∨ k = 302 ∨ k = 303 := by omega
  rcases this with rfl | rfl | rfl | rfl | rfl | rfl | rfl | rfl | rfl | rfl | rfl | rfl | rfl | rfl | rfl | rfl | rfl | rfl | rfl | rfl | rfl | rfl | rfl | rfl | rfl | rfl | rfl | rfl | rfl | rfl | rfl <;> rfl
def val66 (vG : Value) (k gg X : Nat) (p x : Int) (l qg g : Nat) (j : Nat) : Value := match j with
  | 0 => vG
  | 1 => .int .i64 k
  | 2 => .pointer (some ⟨gg, k * 8, none⟩)
  | 3 => .pointer (some ⟨gg, k * 8, none⟩)
  | 4 => .agg #[.int .u64 0, .int .u64 0, .pointer none, .int .u16 p]
  | 5 => .pointer (some ⟨X, 0, none⟩)
  | 6 => .agg #[.int .u64 0, .int .u64 0, .pointer none, .int .u16 p]
  | 7 => .bool false
  | 8 => .bool false
  | 9 => vG
  | 10 => .int .i64 k
  | 11 => .pointer (some ⟨gg, k * 8, none⟩)
  | 12 => .pointer (some ⟨gg, k * 8 + 4, none⟩)
  | 13 => .agg #[.int .u64 (x % 1000000000), .int .i64 (x / 1000000000), .pointer none]
  | 14 => .pointer (some ⟨X, 4, none⟩)
  | 15 => .agg #[.int .u64 (x % 1000000000), .int .i64 (x / 1000000000), .pointer none]
  | 16 => .bool true
  | 17 => .bool false
  | 18 => .bool false
  | 19 => .bool false
  | 20 => vG
  | 21 => .int .i64 k
  | 22 => .pointer (some ⟨gg, k * 8, none⟩)
  | 23 => .pointer (some ⟨gg, k * 8 + 7, none⟩)
  | 24 => .slice (some ⟨qg, 0, none⟩) l l
  | 25 => .int .i64 l
  | 26 => .pointer (some ⟨X, 7, none⟩)
  | 27 => .slice (some ⟨g, 0, none⟩) l l
  | 28 => .int .i64 l
  | 29 => .bool false
  | 30 => .bool false
  | _ => undef
/-- A region whose values are all known ahead but the place of one new box (made by operation ai, of type t, m cells). -/
structure KnownB (fr' : (Nat → Value) → (Nat → Value) → Act) (sl : Nat → Nat) (n : Nat) (val : Nat → Value → Prop) (C : Nat → Value) (w0 : World) (ai : Nat) (t : TypeId) (m : Nat) (listed : Array Bool) (a : Act) (W : World) : Prop where
  U : ∃ U, a = fr' C U ∧ (∀ j, j < n → listed.getD j false = true → val j (U (sl j))) ∧ Below w0.heap.size w0 W ∧ (listed.getD ai false = true → ∃ b c, U (sl ai) = .pointer (some ⟨b, 0, none⟩) ∧ w0.heap.size ≤ b ∧ W.heap[b]? = some (.cells c t (0, 0)) ∧ c.size = m)
section
variable {fr' : (Nat → Value) → (Nat → Value) → Act} {sl : Nat → Nat} {n : Nat} {val : Nat → Value → Prop} {C : Nat → Value} {w0 : World} {ai : Nat} {t : TypeId} {m : Nat} {listed : Array Bool} {U : Nat → Value} {W W' : World}
theorem KnownB.next (hv : ∀ j, j < n → listed.getD j false = true → val j (U (sl j))) (hb : Below w0.heap.size w0 W) (hx : listed.getD ai false = true → ∃ b c, U (sl ai) = .pointer (some ⟨b, 0, none⟩) ∧ w0.heap.size ≤ b ∧ W.heap[b]? = some (.cells c t (0, 0)) ∧ c.size = m)
    {i : Nat} (hi : i ≠ ai) (hsl : ∀ j, j < n → j ≠ i → sl j ≠ sl i) (ha2 : ai < n) (v : Value) (hval : val i v) (hW : Below W.heap.size W W') {a : Act} (ha : a = fr' C (setU U (sl i) v)) :
    KnownB fr' sl n val C w0 ai t m (listed.setIfInBounds i true) a W' := by
  refine ⟨setU U (sl i) v, ha, fun j hj hL => ?_, hb.trans (hW.mono hb.size), fun hL => ?_⟩
  · unfold setU
    by_cases e : j = i
    · subst e; rw [if_pos rfl]; exact hval
    · rw [if_neg (hsl j hj e)]
      rw [getD_set (fun x => e x.symm)] at hL
      exact hv j hj hL
  · rw [getD_set hi] at hL
    obtain ⟨b, c, h1, h2, h3, h4⟩ := hx hL
    refine ⟨b, c, ?_, h2, (hW.block b (lt_heap h3)).trans h3, h4⟩
    unfold setU
    rw [if_neg (hsl ai ha2 (fun x => hi x.symm))]
    exact h1
theorem KnownB.alloc (hv : ∀ j, j < n → listed.getD j false = true → val j (U (sl j))) (hb : Below w0.heap.size w0 W) (hsl : ∀ j, j < n → j ≠ ai → sl j ≠ sl ai) {c : Array Value} (hcs : c.size = m) (hval : val ai (.pointer (some ⟨W.heap.size, 0, none⟩))) {a : Act} (ha : a = fr' C (setU U (sl ai) (.pointer (some ⟨W.heap.size, 0, none⟩)))) :
    KnownB fr' sl n val C w0 ai t m (listed.setIfInBounds ai true) a (W.alloc (.cells c t)) := by
  refine ⟨setU U (sl ai) (.pointer (some ⟨W.heap.size, 0, none⟩)), ha, fun j hj hL => ?_, hb.alloc hb.size _, fun _ => ⟨W.heap.size, c, by simp [setU], hb.size, ?_, hcs⟩⟩
  · unfold setU
    by_cases e : j = ai
    · subst e; rw [if_pos rfl]; exact hval
    · rw [if_neg (hsl j hj e)]
      rw [getD_set (fun x => e x.symm)] at hL
      exact hv j hj hL
  · show (W.heap.push _)[W.heap.size]? = _
    simp
theorem KnownB.store (hv : ∀ j, j < n → listed.getD j false = true → val j (U (sl j))) {i : Nat} (hi : i ≠ ai) (hvi : val i (U (sl i))) {b : Nat} {c : Array Value} (h1 : U (sl ai) = .pointer (some ⟨b, 0, none⟩)) (h2 : w0.heap.size ≤ b) (h3 : W'.heap[b]? = some (.cells c t (0, 0))) (h4 : c.size = m) (hW : Below w0.heap.size w0 W') :
    KnownB fr' sl n val C w0 ai t m (listed.setIfInBounds i true) (fr' C U) W' := by
  refine ⟨U, rfl, fun j hj hL => ?_, hW, fun _ => ⟨b, c, h1, h2, h3, h4⟩⟩
  by_cases e : j = i
  · subst e; exact hvi
  · rw [getD_set (fun x => e x.symm)] at hL
    exact hv j hj hL
end
theorem cell_of {W : World} {b : Nat} {c : Array Value} {t : TypeId} {m j : Nat} (h : W.heap[b]? = some (.cells c t (0, 0))) (hm : c.size = m) (hj : j < m) : ∃ v, W.cell? ⟨b, j, none⟩ = some v := by
  refine ⟨c[j], ?_⟩
  unfold World.cell?
  rw [h]
  show c[j]? = _
  exact Array.getElem?_eq_getElem _
theorem zero32 (w : World) : (zeroValue 32).run Yba.prog w = .ok (.agg #[.string ⟨#[]⟩, .string ⟨#[]⟩]) w := by kernel_rfl
def sl72 (j : Nat) : Nat := match j with
  | 12 => 309
  | 13 => 322
  | 14 => 323
  | 15 => 47
  | 16 => 1000
  | 17 => 48
  | j => 310 + j
def sl76 (j : Nat) : Nat := match j with
  | 5 => 342
  | 6 => 348
  | 7 => 349
  | 8 => 49
  | 9 => 1000
  | 10 => 50
  | j => 343 + j
/-- What the look-up of place k yields. -/
def val72 (B k : Nat) (nv e0 : Value) (ok : Bool) (j : Nat) (v : Value) : Prop := match j with
  | 0 => v = .pointer (some ⟨B + 7, 0, none⟩)
  | 1 => v = .map (some (B + 5))
  | 2 => v = .int .i64 k
  | 3 => v = .int .i64 ((k / 4 : Nat) : Int)
  | 4 => v = .pointer (some ⟨B, k / 4, none⟩)
  | 5 => v = .string (rS (k / 4))
  | 6 => v = nv
  | 7 => v = .int .i64 k
  | 8 => v = .int .i64 ((k % 4 : Nat) : Int)
  | 9 => v = .pointer (some ⟨B + 1, k % 4, none⟩)
  | 10 => v = .string (nS (k % 4))
  | 11 => v = .tuple #[e0, .bool ok]
  | 12 => v = .tuple #[e0, .bool ok]
  | 13 => v = e0
  | 14 => v = .bool ok
  | 17 => v = .bool ok
  | _ => True
def val76 (B k : Nat) (a b : ByteArray) (ok : Bool) (j : Nat) (v : Value) : Prop := match j with
  | 0 => v = .pointer (some ⟨B + 7, 2, none⟩)
  | 1 => v = .map (some (B + 6))
  | 2 => v = .int .i64 k
  | 3 => v = .string (tS k)
  | 4 => v = .tuple #[.agg #[.string a, .string b], .bool ok]
  | 5 => v = .tuple #[.agg #[.string a, .string b], .bool ok]
  | 6 => v = .agg #[.string a, .string b]
  | 7 => v = .bool ok
  | 10 => v = .bool ok
  | _ => True
/-- The second look-up. -/
theorem Aft.look {B ks base : Nat} {w0 W : World} {S : Nat → Option Slot} {R : Nat → Option Nat} {size bytes now : Int} {L : List Pend} {got : Value} {c : Int} (h : Aft B ks base w0 S R size bytes now L got c W) {k : Nat} (hk : k < 8) :
    ∃ nv a m c rn, (∀ W', Below W.heap.size W W' → (Instr.lookup 30 (.map (some (B + 5))) (.string (rS (k / 4))) false).run Yba.prog W' = .ok nv W') ∧
      (∀ W', Below W.heap.size W W' → (Instr.lookup 61 nv (.string (nS (k % 4))) true).run Yba.prog W' = .ok (.tuple #[.agg #[.slice a m c, .int .u8 0, .slice none 0 0, .string rn], .bool ((S k).isSome && decide (k ≠ ks))]) W') := by
  obtain ⟨es, cl, e1, e2, e3⟩ := h.ent
  have hb4 : k / 4 < 2 := by omega
  have hm4 : k % 4 < 4 := by omega
  have hk' : k / 4 * 4 + k % 4 = k := by omega
  have l1 : ∀ W', Below W.heap.size W W' → (Instr.lookup 30 (.map (some (B + 5))) (.string (rS (k / 4))) false).run Yba.prog W' = .ok ((lookS es.toList (rS (k / 4))).getD (.map none)) W' := fun W' hb => by
    have := run_lookup (P := Yba.prog) (w := W') (m := B + 5) (clock := cl) Yba.underlying9 Yba.underlying30 (zero61 _) ((hb.block _ (lt_heap e1)).trans e1) e2 (rS (k / 4)) false
    rw [this]
    rfl
  rw [e3 _ hb4] at l1
  cases hR : R (k / 4) with
  | none =>
    rw [hR] at l1
    have hS := h.nmsN (k / 4) hb4 hR (k % 4) hm4
    rw [hk'] at hS
    refine ⟨_, none, 0, 0, ⟨#[]⟩, l1, fun W' hb => ?_⟩
    have := run_lookup_nil (P := Yba.prog) (w := W') Yba.underlying9 Yba.underlying61 (zero59 _) (nS (k % 4)) true
    simp only [hS]
    exact this
  | some M =>
    rw [hR] at l1
    obtain ⟨esM, cM, m1, m2, m3⟩ := h.nms (k / 4) M hb4 hR
    obtain ⟨m4, m5⟩ := m3 (k % 4) hm4
    rw [hk'] at m4
    have l2 : ∀ W', Below W.heap.size W W' → (Instr.lookup 61 (.map (some M)) (.string (nS (k % 4))) true).run Yba.prog W' = .ok (.tuple #[(lookS esM.toList (nS (k % 4))).getD (.agg #[.slice none 0 0, .int .u8 0, .slice none 0 0, .string ⟨#[]⟩]), .bool (lookS esM.toList (nS (k % 4))).isSome]) W' := fun W' hb => by
      have := run_lookup (P := Yba.prog) (w := W') (m := M) (clock := cM) Yba.underlying9 Yba.underlying61 (zero59 _) ((hb.block _ (lt_heap m1)).trans m1) m2 (nS (k % 4)) true
      rw [this]
      rfl
    rw [m4] at l2
    cases hl : lookS esM.toList (nS (k % 4)) with
    | none =>
      rw [hl] at l2
      exact ⟨_, none, 0, 0, ⟨#[]⟩, l1, l2⟩
    | some v =>
      obtain ⟨g, m, c, rn, rfl⟩ := m5 v hl
      rw [hl] at l2
      exact ⟨_, some ⟨g, 0, none⟩, m, c, rn, l1, l2⟩
theorem Aft.lookT {B ks base : Nat} {w0 W : World} {S : Nat → Option Slot} {R : Nat → Option Nat} {size bytes now : Int} {L : List Pend} {got : Value} {c : Int} (h : Aft B ks base w0 S R size bytes now L got c W) (key : ByteArray) (ok : Bool) (hok : ∀ es : List MapEntry, (lookS es keep).isSome = true → (∀ s, s < 8 → (lookS es (tS s)).isSome = (rOf (S s) && decide (s ≠ ks))) → (lookS es key).isSome = ok) :
    ∃ a b, ∀ W', Below W.heap.size W W' → (Instr.lookup 33 (.map (some (B + 6))) (.string key) true).run Yba.prog W' = .ok (.tuple #[.agg #[.string a, .string b], .bool ok]) W' := by
  obtain ⟨es, cl, t1, t2, t3, t4, t5⟩ := h.tmpl
  have hk := hok es.toList t3 t4
  have l1 : ∀ W', Below W.heap.size W W' → (Instr.lookup 33 (.map (some (B + 6))) (.string key) true).run Yba.prog W' = .ok (.tuple #[(lookS es.toList key).getD (.agg #[.string ⟨#[]⟩, .string ⟨#[]⟩]), .bool (lookS es.toList key).isSome]) W' := fun W' hb => by
    have := run_lookup (P := Yba.prog) (w := W') (m := B + 6) (clock := cl) Yba.underlying9 Yba.underlying33 (zero32 _) ((hb.block _ (lt_heap t1)).trans t1) t2 key true
    rw [this]
    rfl
  rw [hk] at l1
  cases hl : lookS es.toList key with
  | none => rw [hl] at l1; exact ⟨_, _, l1⟩
  | some v =>
    obtain ⟨a, b, rfl⟩ := t5 key v hl
    rw [hl] at l1
    exact ⟨a, b, l1⟩
set_option maxRecDepth 100000 in
/-- The law's frame: C what the region leaves alone, U what it writes. -/
def fr72 (C U : Nat → Value) : Act := ⟨#[C 0, C 1, C 2, C 3, C 4, C 5, C 6, C 7, C 8, C 9, C 10, C 11, C 12, C 13, C 14, C 15, C 16, C 17, C 18, C 19, C 20, C 21, C 22, C 23, C 24, C 25, C 26, C 27, C 28, C 29, C 30, C 31, C 32, C 33, C 34, C 35, C 36, C 37, C 38, C 39, C 40, C 41, C 42, C 43, C 44, C 45, C 46, U 47, U 48, C 49, C 50, C 51, C 52, C 53, C 54, C 55, C 56, C 57, C 58, C 59, C 60, C 61, C 62, C 63, C 64, C 65, C 66, C 67, C 68, C 69, C 70, C 71, C 72, C 73, C 74, C 75, C 76, C 77, C 78, C 79, C 80, C 81, C 82, C 83, C 84, C 85, C 86, C 87, C 88, C 89, C 90, C 91, C 92, C 93, C 94, C 95, C 96, C 97, C 98, C 99, C 100, C 101, C 102, C 103, C 104, C 105, C 106, C 107, C 108, C 109, C 110, C 111, C 112, C 113, C 114, C 115, C 116, C 117, C 118, C 119, C 120, C 121, C 122, C 123, C 124, C 125, C 126, C 127, C 128, C 129, C 130, C 131, C 132, C 133, C 134, C 135, C 136, C 137, C 138, C 139, C 140, C 141, C 142, C 143, C 144, C 145, C 146, C 147, C 148, C 149, C 150, C 151, C 152, C 153, C 154, C 155, C 156, C 157, C 158, C 159, C 160, C 161, C 162, C 163, C 164, C 165, C 166, C 167, C 168, C 169, C 170, C 171, C 172, C 173, C 174, C 175, C 176, C 177, C 178, C 179, C 180, C 181, C 182, C 183, C 184, C 185, C 186, C 187, C 188, C 189, C 190, C 191, C 192, C 193, C 194, C 195, C 196, C 197, C 198, C 199, C 200, C 201, C 202, C 203, C 204, C 205, C 206, C 207, C 208, C 209, C 210, C 211, C 212, C 213, C 214, C 215, C 216, C 217, C 218, C 219, C 220, C 221, C 222, C 223, C 224, C 225, C 226, C 227, C 228, C 229, C 230, C 231, C 232, C 233, C 234, C 235, C 236, C 237, C 238, C 239, C 240, C 241, C 242, C 243, C 244, C 245, C 246, C 247, C 248, C 249, C 250, C 251, C 252, C 253, C 254, C 255, C 256, C 257, C 258, C 259, C 260, C 261, C 262, C 263, C 264, C 265, C 266, C 267, C 268, C 269, C 270, C 271, C 272, C 273, C 274, C 275, C 276, C 277, C 278, C 279, C 280, C 281, C 282, C 283, C 284, C 285, C 286, C 287, C 288, C 289, C 290, C 291, C 292, C 293, C 294, C 295, C 296, C 297, C 298, C 299, C 300, C 301, C 302, C 303, C 304, C 305, C 306, C 307, C 308, U 309, U 310, U 311, U 312, U 313, U 314, U 315, U 316, U 317, U 318, U 319, U 320, U 321, U 322, U 323, C 324, C 325, C 326, C 327, C 328, C 329, C 330, C 331, C 332, C 333, C 334, C 335, C 336, C 337, C 338, C 339, C 340, C 341, C 342, C 343, C 344, C 345, C 346, C 347, C 348, C 349, C 350, C 351, C 352, C 353, C 354, C 355, C 356, C 357, C 358, C 359, C 360, C 361, C 362, C 363, C 364, C 365, C 366, C 367, C 368, C 369, C 370, C 371, C 372, C 373, C 374, C 375], []⟩
set_option maxRecDepth 100000 in
theorem fr72_range (C : Nat → Value) : (fr72 C C).tmps = ((List.range 376).map C).toArray := rfl
theorem fr72_of {a : Act} (hs : a.tmps.size = 376) (hd : a.defers = []) : fr72 (fun k => a.tmps.getD k undef) (fun k => a.tmps.getD k undef) = a := by
  have h1 := fr72_range (fun k => a.tmps.getD k undef)
  have h2 : ((List.range 376).map fun k => a.tmps.getD k undef).toArray = a.tmps := by
    apply Array.ext
    · simp [hs]
    · intro i h1 h2
      simp [Array.getD, h2]
  rw [h2] at h1
  cases a with
  | mk t d =>
    cases hd
    have : fr72 (fun k => t.getD k undef) (fun k => t.getD k undef) = ⟨(fr72 (fun k => t.getD k undef) (fun k => t.getD k undef)).tmps, []⟩ := rfl
    rw [this, h1]
theorem fr72_start {P : Program} {md : Region.Mode} {ops : Array Oper} {Q : Exit → Act → World → Prop} {fuel : Nat} {listed : Array Bool} {a : Act} {W : World} (hs : a.tmps.size = 376) (hd : a.defers = [])
    (h : ∀ C : Nat → Value, (∀ k, C k = a.tmps.getD k undef) → wpAny P md ops Q fuel listed (fr72 C C) W) : wpAny P md ops Q fuel listed a W := by
  have := h (fun k => a.tmps.getD k undef) (fun _ => rfl)
  rw [fr72_of hs hd] at this
  exact this
set_option maxRecDepth 100000 in
theorem fr72_set (C U : Nat → Value) (v : Value) {k : Nat} (hk : (309 ≤ k ∧ k ≤ 323) ∨ k = 47 ∨ k = 48) : (⟨(fr72 C U).tmps.setIfInBounds k v, (fr72 C U).defers⟩ : Act) = fr72 C (setU U k v) := by
  have : k = 47 ∨ k = 48 ∨ k = 309 ∨ k = 310 ∨ k = 311 ∨ k = 312 ∨ k = 313 ∨ k = 314 ∨ k = 315 ∨ k = 316 ∨ k = 317 ∨ k = 318 ∨ k = 319 ∨ k = 320 ∨ k = 321 ∨ k = 322 ∨ k = 323 := by omega
  rcases this with rfl | rfl | rfl | rfl | rfl | rfl | rfl | rfl | rfl | rfl | rfl | rfl | rfl | rfl | rfl | rfl | rfl <;> rfl
set_option maxRecDepth 100000 in
/-- The law's frame: C what the region leaves alone, U what it writes. -/
def fr76 (C U : Nat → Value) : Act := ⟨#[C 0, C 1, C 2, C 3, C 4, C 5, C 6, C 7, C 8, C 9, C 10, C 11, C 12, C 13, C 14, C 15, C 16, C 17, C 18, C 19, C 20, C 21, C 22, C 23, C 24, C 25, C 26, C 27, C 28, C 29, C 30, C 31, C 32, C 33, C 34, C 35, C 36, C 37, C 38, C 39, C 40, C 41, C 42, C 43, C 44, C 45, C 46, C 47, C 48, U 49, U 50, C 51, C 52, C 53, C 54, C 55, C 56, C 57, C 58, C 59, C 60, C 61, C 62, C 63, C 64, C 65, C 66, C 67, C 68, C 69, C 70, C 71, C 72, C 73, C 74, C 75, C 76, C 77, C 78, C 79, C 80, C 81, C 82, C 83, C 84, C 85, C 86, C 87, C 88, C 89, C 90, C 91, C 92, C 93, C 94, C 95, C 96, C 97, C 98, C 99, C 100, C 101, C 102, C 103, C 104, C 105, C 106, C 107, C 108, C 109, C 110, C 111, C 112, C 113, C 114, C 115, C 116, C 117, C 118, C 119, C 120, C 121, C 122, C 123, C 124, C 125, C 126, C 127, C 128, C 129, C 130, C 131, C 132, C 133, C 134, C 135, C 136, C 137, C 138, C 139, C 140, C 141, C 142, C 143, C 144, C 145, C 146, C 147, C 148, C 149, C 150, C 151, C 152, C 153, C 154, C 155, C 156, C 157, C 158, C 159, C 160, C 161, C 162, C 163, C 164, C 165, C 166, C 167, C 168, C 169, C 170, C 171, C 172, C 173, C 174, C 175, C 176, C 177, C 178, C 179, C 180, C 181, C 182, C 183, C 184, C 185, C 186, C 187, C 188, C 189, C 190, C 191, C 192, C 193, C 194, C 195, C 196, C 197, C 198, C 199, C 200, C 201, C 202, C 203, C 204, C 205, C 206, C 207, C 208, C 209, C 210, C 211, C 212, C 213, C 214, C 215, C 216, C 217, C 218, C 219, C 220, C 221, C 222, C 223, C 224, C 225, C 226, C 227, C 228, C 229, C 230, C 231, C 232, C 233, C 234, C 235, C 236, C 237, C 238, C 239, C 240, C 241, C 242, C 243, C 244, C 245, C 246, C 247, C 248, C 249, C 250, C 251, C 252, C 253, C 254, C 255, C 256, C 257, C 258, C 259, C 260, C 261, C 262, C 263, C 264, C 265, C 266, C 267, C 268, C 269, C 270, C 271, C 272, C 273, C 274, C 275, C 276, C 277, C 278, C 279, C 280, C 281, C 282, C 283, C 284, C 285, C 286, C 287, C 288, C 289, C 290, C 291, C 292, C 293, C 294, C 295, C 296, C 297, C 298, C 299, C 300, C 301, C 302, C 303, C 304, C 305, C 306, C 307, C 308, C 309, C 310, C 311, C 312, C 313, C 314, C 315, C 316, C 317, C 318, C 319, C 320, C 321, C 322, C 323, C 324, C 325, C 326, C 327, C 328, C 329, C 330, C 331, C 332, C 333, C 334, C 335, C 336, C 337, C 338, C 339, C 340, C 341, U 342, U 343, U 344, U 345, U 346, U 347, U 348, U 349, C 350, C 351, C 352, C 353, C 354, C 355, C 356, C 357, C 358, C 359, C 360, C 361, C 362, C 363, C 364, C 365, C 366, C 367, C 368, C 369, C 370, C 371, C 372, C 373, C 374, C 375], []⟩
set_option maxRecDepth 100000 in
theorem fr76_range (C : Nat → Value) : (fr76 C C).tmps = ((List.range 376).map C).toArray := rfl
theorem fr76_of {a : Act} (hs : a.tmps.size = 376) (hd : a.defers = []) : fr76 (fun k => a.tmps.getD k undef) (fun k => a.tmps.getD k undef) = a := by
  have h1 := fr76_range (fun k => a.tmps.getD k undef)
  have h2 : ((List.range 376).map fun k => a.tmps.getD k undef).toArray = a.tmps := by
    apply Array.ext
    · simp [hs]
    · intro i h1 h2
      simp [Array.getD, h2]
  rw [h2] at h1
  cases a with
  | mk t d =>
    cases hd
    have : fr76 (fun k => t.getD k undef) (fun k => t.getD k undef) = ⟨(fr76 (fun k => t.getD k undef) (fun k => t.getD k undef)).tmps, []⟩ := rfl
    rw [this, h1]
theorem fr76_start {P : Program} {md : Region.Mode} {ops : Array Oper} {Q : Exit → Act → World → Prop} {fuel : Nat} {listed : Array Bool} {a : Act} {W : World} (hs : a.tmps.size = 376) (hd : a.defers = [])
    (h : ∀ C : Nat → Value, (∀ k, C k = a.tmps.getD k undef) → wpAny P md ops Q fuel listed (fr76 C C) W) : wpAny P md ops Q fuel listed a W := by
  have := h (fun k => a.tmps.getD k undef) (fun _ => rfl)
  rw [fr76_of hs hd] at this
  exact this
set_option maxRecDepth 100000 in
theorem fr76_set (C U : Nat → Value) (v : Value) {k : Nat} (hk : (342 ≤ k ∧ k ≤ 349) ∨ k = 49 ∨ k = 50) : (⟨(fr76 C U).tmps.setIfInBounds k v, (fr76 C U).defers⟩ : Act) = fr76 C (setU U k v) := by
  have : k = 49 ∨ k = 50 ∨ k = 342 ∨ k = 343 ∨ k = 344 ∨ k = 345 ∨ k = 346 ∨ k = 347 ∨ k = 348 ∨ k = 349 := by omega
  rcases this with rfl | rfl | rfl | rfl | rfl | rfl | rfl | rfl | rfl | rfl <;> rfl
end Go.Proofs.Ybulkcfbe.tab
