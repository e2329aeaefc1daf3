/- The region that calls take: its frame, its invariant. -/
import Derived.Test.YbulkcfbeAft
namespace Go.Proofs.Ybulkcfbe.tab
open Go.ChangeShapes Go.WideShapes Go.ChangeAt Go.RowKit
open Go.Proofs.Ybulkcfbe.tm Go.Proofs.Ybulkcfbe.sm Go.Proofs.Ybulkcfbe.pd Go.Proofs.Ybulkcfbe.inv
open Go.ChangeMaps (setBlock)
set_option linter.unusedVariables false
set_option maxRecDepth 100000 in
/-- The law's frame: C what the region leaves alone, U what it writes. -/
def fr (C U : Nat → Value) : Act := ⟨#[C 0, C 1, C 2, C 3, C 4, C 5, C 6, C 7, C 8, C 9, C 10, C 11, C 12, C 13, C 14, C 15, C 16, C 17, C 18, C 19, C 20, C 21, C 22, C 23, C 24, C 25, C 26, C 27, C 28, C 29, C 30, C 31, C 32, C 33, C 34, C 35, U 36, U 37, C 38, C 39, C 40, C 41, C 42, C 43, C 44, C 45, C 46, C 47, C 48, C 49, C 50, C 51, C 52, C 53, C 54, C 55, C 56, C 57, C 58, C 59, C 60, C 61, C 62, C 63, C 64, C 65, C 66, C 67, C 68, C 69, C 70, C 71, C 72, C 73, C 74, C 75, C 76, C 77, C 78, C 79, C 80, C 81, C 82, C 83, C 84, C 85, C 86, C 87, C 88, C 89, C 90, C 91, C 92, C 93, C 94, C 95, C 96, C 97, C 98, C 99, C 100, C 101, C 102, C 103, C 104, C 105, C 106, C 107, C 108, C 109, C 110, C 111, C 112, C 113, C 114, C 115, C 116, C 117, C 118, C 119, C 120, C 121, C 122, C 123, C 124, C 125, C 126, C 127, C 128, C 129, C 130, C 131, C 132, C 133, C 134, C 135, C 136, C 137, C 138, C 139, C 140, C 141, C 142, C 143, C 144, C 145, C 146, C 147, C 148, C 149, C 150, C 151, C 152, C 153, C 154, C 155, C 156, C 157, C 158, C 159, C 160, C 161, C 162, C 163, C 164, C 165, C 166, C 167, C 168, C 169, C 170, C 171, C 172, C 173, C 174, C 175, C 176, C 177, C 178, C 179, C 180, C 181, C 182, C 183, C 184, C 185, C 186, C 187, C 188, U 189, U 190, U 191, U 192, U 193, U 194, U 195, U 196, U 197, U 198, U 199, U 200, U 201, U 202, U 203, U 204, U 205, U 206, U 207, U 208, C 209, C 210, C 211, C 212, C 213, C 214, C 215, C 216, C 217, C 218, C 219, C 220, C 221, C 222, C 223, C 224, C 225, C 226, C 227, C 228, C 229, C 230, C 231, C 232, C 233, C 234, C 235, C 236, C 237, C 238, C 239, C 240, C 241, C 242, C 243, C 244, C 245, C 246, C 247, C 248, C 249, C 250, C 251, C 252, C 253, C 254, C 255, C 256, C 257, C 258, C 259, C 260, C 261, C 262, C 263, C 264, C 265, C 266, C 267, C 268, C 269, C 270, C 271, C 272, C 273, C 274, C 275, C 276, C 277, C 278, C 279, C 280, C 281, C 282, C 283, C 284, C 285, C 286, C 287, C 288, C 289, C 290, C 291, C 292, C 293, C 294, C 295, C 296, C 297, C 298, C 299, C 300, C 301, C 302, C 303, C 304, C 305, C 306, C 307, C 308, C 309, C 310, C 311, C 312, C 313, C 314, C 315, C 316, C 317, C 318, C 319, C 320, C 321, C 322, C 323, C 324, C 325, C 326, C 327, C 328, C 329, C 330, C 331, C 332, C 333, C 334, C 335, C 336, C 337, C 338, C 339, C 340, C 341, C 342, C 343, C 344, C 345, C 346, C 347, C 348, C 349, C 350, C 351, C 352, C 353, C 354, C 355, C 356, C 357, C 358, C 359, C 360, C 361, C 362, C 363, C 364, C 365, C 366, C 367, C 368, C 369, C 370, C 371, C 372, C 373, C 374, C 375], []⟩
set_option maxRecDepth 100000 in
theorem fr_range (C : Nat → Value) : (fr C C).tmps = ((List.range 376).map C).toArray := rfl
theorem fr_of {a : Act} (hs : a.tmps.size = 376) (hd : a.defers = []) : fr (fun k => a.tmps.getD k undef) (fun k => a.tmps.getD k undef) = a := by
  have h1 := fr_range (fun k => a.tmps.getD k undef)
  have h2 : ((List.range 376).map fun k => a.tmps.getD k undef).toArray = a.tmps := by
    apply Array.ext
    · simp [hs]
    · intro i h1 h2
      simp [Array.getD, h2]
  rw [h2] at h1
  cases a with
  | mk t d =>
    cases hd
    have : fr (fun k => t.getD k undef) (fun k => t.getD k undef) = ⟨(fr (fun k => t.getD k undef) (fun k => t.getD k undef)).tmps, []⟩ := rfl
    rw [this, h1]
theorem fr_start {P : Program} {md : Region.Mode} {ops : Array Oper} {Q : Exit → Act → World → Prop} {fuel : Nat} {listed : Array Bool} {a : Act} {W : World} (hs : a.tmps.size = 376) (hd : a.defers = [])
    (h : ∀ C : Nat → Value, (∀ k, C k = a.tmps.getD k undef) → wpAny P md ops Q fuel listed (fr C C) W) : wpAny P md ops Q fuel listed a W := by
  have := h (fun k => a.tmps.getD k undef) (fun _ => rfl)
  rw [fr_of hs hd] at this
  exact this
def setU (U : Nat → Value) (k : Nat) (v : Value) : Nat → Value := fun x => if x = k then v else U x
set_option maxRecDepth 100000 in
theorem fr_set (C U : Nat → Value) (v : Value) {k : Nat} (hk : k = 36 ∨ k = 37 ∨ (189 ≤ k ∧ k ≤ 208)) : (⟨(fr C U).tmps.setIfInBounds k v, (fr C U).defers⟩ : Act) = fr C (setU U k v) := by
  have : k = 36 ∨ k = 37 ∨ k = 189 ∨ k = 190 ∨ k = 191 ∨ k = 192 ∨ k = 193 ∨ k = 194 ∨ k = 195 ∨ k = 196 ∨ k = 197 ∨ k = 198 ∨ k = 199 ∨ k = 200 ∨ k = 201 ∨ k = 202 ∨ k = 203 ∨ k = 204 ∨ k = 205 ∨ k = 206 ∨ k = 207 ∨ k = 208 := by omega
  rcases this with rfl | rfl | rfl | rfl | rfl | rfl | rfl | rfl | rfl | rfl | rfl | rfl | rfl | rfl | rfl | rfl | rfl | rfl | rfl | rfl | rfl | rfl <;> rfl
/-- What the region's first operations yield. -/
def valT (rs ns : ByteArray) (B ks qi ri : Nat) (now : Int) (v32 : Value) (j : Nat) (v : Value) : Prop :=
  match j with
  | 0 => v = v32
  | 1 => v = .int .i64 ks
  | 2 => v = .int .i64 qi
  | 3 => v = .pointer (some ⟨B, qi, none⟩)
  | 4 => v = .string rs
  | 5 => ∃ br cr, v = .slice (some ⟨br, 0, none⟩) rs.size cr
  | 6 => v = .int .i64 ks
  | 7 => v = .int .i64 ri
  | 8 => v = .pointer (some ⟨B + 1, ri, none⟩)
  | 9 => v = .string ns
  | 10 => ∃ bn cn, v = .slice (some ⟨bn, 0, none⟩) ns.size cn
  | 11 => ∃ br cr bn cn, v = .agg #[.slice (some ⟨br, 0, none⟩) rs.size cr, .slice (some ⟨bn, 0, none⟩) ns.size cn]
  | 12 => v = .agg #[.int .u64 0, .int .i64 0, .pointer none]
  | 13 => v = .int .i32 now
  | 14 => v = .int .i64 now
  | 15 => v = .agg #[.int .u64 (now % 1000000000), .int .i64 (now / 1000000000), .pointer none]
  | _ => True
/-- Ahead of the call of take. -/
structure Ahead (rs ns : ByteArray) (wp : World) (listed : Array Bool) (U : Nat → Value) (W : World) : Prop where
  bel : Below wp.heap.size wp W
  r : listed.getD 5 false = true → ∀ br cr, U 195 = .slice (some ⟨br, 0, none⟩) rs.size cr → Txt W br rs.data.toList ∧ br < W.heap.size
  n : listed.getD 10 false = true → ∀ bn cn, U 200 = .slice (some ⟨bn, 0, none⟩) ns.size cn → Txt W bn ns.data.toList ∧ bn < W.heap.size
  late : ∀ j, 16 < j → listed.getD j false = false
  k : listed.getD 11 false = true → ∀ br cr bn cn, U 201 = .agg #[.slice (some ⟨br, 0, none⟩) rs.size cr, .slice (some ⟨bn, 0, none⟩) ns.size cn] → (Txt W br rs.data.toList ∧ br < W.heap.size) ∧ (Txt W bn ns.data.toList ∧ bn < W.heap.size)
def lateV (i : Nat) (got : Value) (c : Int) : Value := match i with
  | 17 => .tuple #[got, .int .i64 c]
  | 18 => got
  | 19 => .int .i64 c
  | 20 => got
  | _ => .int .i64 c
def lateS (i : Nat) : Nat := match i with
  | 17 => 189
  | 18 => 207
  | 19 => 208
  | 20 => 36
  | _ => 37
/-- Behind it. -/
def Behind (A : Value → Int → World → Prop) (listed : Array Bool) (U : Nat → Value) (W : World) : Prop :=
  ∃ got c, A got c W ∧ U 206 = .tuple #[got, .int .i64 c] ∧ ∀ i, 16 < i → i < 22 → listed.getD i false = true → U (lateS i) = lateV i got c
structure I47 (C : Nat → Value) (rs ns : ByteArray) (B ks qi ri : Nat) (now : Int) (v32 : Value) (wp : World) (A : Value → Int → World → Prop) (listed : Array Bool) (a : Act) (W : World) : Prop where
  U : ∃ U, a = fr C U ∧ (∀ j, j < 16 → listed.getD j false = true → valT rs ns B ks qi ri now v32 j (U (190 + j))) ∧ (listed.getD 16 false = false → Ahead rs ns wp listed U W) ∧ (listed.getD 16 false = true → Behind A listed U W)
theorem getD_set {listed : Array Bool} {i j : Nat} (h : i ≠ j) : (listed.setIfInBounds i true).getD j false = listed.getD j false := by
  rw [Array.getD_eq_getD_getElem?, Array.getElem?_setIfInBounds, if_neg h, ← Array.getD_eq_getD_getElem?]
theorem lateS_late {i : Nat} (h : 16 < i) (h' : i < 22) : lateS i = 189 ∨ lateS i = 207 ∨ lateS i = 208 ∨ lateS i = 36 ∨ lateS i = 37 := by
  have : i = 17 ∨ i = 18 ∨ i = 19 ∨ i = 20 ∨ i = 21 := by omega
  rcases this with rfl | rfl | rfl | rfl | rfl <;> simp [lateS]
theorem txt_below {W W' : World} {b : Nat} {s : List UInt8} (h : Txt W b s) (hb : b < W.heap.size) (hW : Below W.heap.size W W') : Txt W' b s ∧ b < W'.heap.size := by
  refine ⟨fun j hj => ?_, Nat.lt_of_lt_of_le hb hW.size⟩
  rw [hW.cell (p := ⟨b, j, none⟩) hb]
  exact h j hj
section
variable {C : Nat → Value} {rs ns : ByteArray} {B ks qi ri : Nat} {now : Int} {v32 : Value} {wp : World} {A : Value → Int → World → Prop} {listed : Array Bool} {W W' : World} {U : Nat → Value}
/-- An operation ahead of the call. -/
theorem I47.next (hv : ∀ j, j < 16 → listed.getD j false = true → valT rs ns B ks qi ri now v32 j (U (190 + j))) (hA0 : listed.getD 16 false = false → Ahead rs ns wp listed U W) (hB : listed.getD 16 false = true → Behind A listed U W) (hAk : ∀ got c W W', A got c W → Below W.heap.size W W' → A got c W') {i : Nat} (hi : i < 16) (v : Value) (hval : valT rs ns B ks qi ri now v32 i v) (hW : Below W.heap.size W W')
    (h5 : i = 5 → ∀ br cr, v = .slice (some ⟨br, 0, none⟩) rs.size cr → Txt W' br rs.data.toList ∧ br < W'.heap.size)
    (h10 : i = 10 → ∀ bn cn, v = .slice (some ⟨bn, 0, none⟩) ns.size cn → Txt W' bn ns.data.toList ∧ bn < W'.heap.size)
    (h11 : i = 11 → listed.getD 16 false = false → ∀ br cr bn cn, v = .agg #[.slice (some ⟨br, 0, none⟩) rs.size cr, .slice (some ⟨bn, 0, none⟩) ns.size cn] → (Txt W' br rs.data.toList ∧ br < W'.heap.size) ∧ (Txt W' bn ns.data.toList ∧ bn < W'.heap.size))
    {a : Act} (ha : a = fr C (setU U (190 + i) v)) : I47 C rs ns B ks qi ri now v32 wp A (listed.setIfInBounds i true) a W' := by
  have hsame : ∀ j, j ≠ i → setU U (190 + i) v (190 + j) = U (190 + j) := fun j hj => by
    unfold setU
    rw [if_neg (by omega)]
  have hself : setU U (190 + i) v (190 + i) = v := by unfold setU; rw [if_pos rfl]
  refine ⟨setU U (190 + i) v, ha, fun j hj hL => ?_, fun h0 => ?_, fun h1 => ?_⟩
  · by_cases e : j = i
    · subst e; rw [hself]; exact hval
    · rw [hsame j e]
      rw [getD_set (fun x => e x.symm)] at hL
      exact hv j hj hL
  · rw [getD_set (by omega)] at h0
    have hA := hA0 h0
    refine ⟨hA.bel.trans (hW.mono hA.bel.size), ?_, ?_, fun j hj => by rw [getD_set (by omega)]; exact hA.late j hj, ?_⟩
    · intro hL br cr hu
      by_cases e : i = 5
      · subst e; rw [hself] at hu; exact h5 rfl br cr hu
      · rw [getD_set e] at hL
        rw [hsame 5 (fun x => e x.symm)] at hu
        obtain ⟨x1, x2⟩ := hA.r hL br cr hu
        exact txt_below x1 x2 hW
    · intro hL br cr hu
      by_cases e : i = 10
      · subst e; rw [hself] at hu; exact h10 rfl br cr hu
      · rw [getD_set e] at hL
        rw [hsame 10 (fun x => e x.symm)] at hu
        obtain ⟨x1, x2⟩ := hA.n hL br cr hu
        exact txt_below x1 x2 hW
    · intro hL br cr bn cn hu
      by_cases e : i = 11
      · subst e; rw [hself] at hu; exact h11 rfl h0 br cr bn cn hu
      · rw [getD_set e] at hL
        rw [hsame 11 (fun x => e x.symm)] at hu
        obtain ⟨⟨x1, x2⟩, ⟨x3, x4⟩⟩ := hA.k hL br cr bn cn hu
        exact ⟨txt_below x1 x2 hW, txt_below x3 x4 hW⟩
  · rw [getD_set (by omega)] at h1
    obtain ⟨got, c, x1, x2, x3⟩ := hB h1
    refine ⟨got, c, hAk _ _ _ _ x1 hW, ?_, fun k h1 h2 h => ?_⟩
    · unfold setU; rw [if_neg (by omega)]; exact x2
    · rw [getD_set (by omega)] at h
      have := lateS_late h1 h2
      unfold setU
      rw [if_neg (by omega)]
      exact x3 k h1 h2 h
/-- The call of take. -/
theorem I47.call (hv : ∀ j, j < 16 → listed.getD j false = true → valT rs ns B ks qi ri now v32 j (U (190 + j))) (hs : listed.size = 22) (hno : ∀ j, 16 < j → listed.getD j false = false) (got : Value) (c : Int) (hA : A got c W') {a : Act} (ha : a = fr C (setU U 206 (.tuple #[got, .int .i64 c]))) : I47 C rs ns B ks qi ri now v32 wp A (listed.setIfInBounds 16 true) a W' := by
  have hf : ∀ j, 16 < j → (listed.setIfInBounds 16 true).getD j false = true → False := fun j hj hL => by
    rw [getD_set (by omega), hno j hj] at hL
    cases hL
  refine ⟨setU U 206 (.tuple #[got, .int .i64 c]), ha, fun j hj hL => ?_, fun h1 => ?_, fun _ => ⟨got, c, hA, by simp [setU], fun i h1 h2 h => (hf i h1 h).elim⟩⟩
  · rw [getD_set (by omega)] at hL
    have : setU U 206 (.tuple #[got, .int .i64 c]) (190 + j) = U (190 + j) := by unfold setU; rw [if_neg (by omega)]
    rw [this]
    exact hv j hj hL
  · rw [Array.getD_eq_getD_getElem?, Array.getElem?_setIfInBounds, if_pos rfl, if_pos (by omega)] at h1
    cases h1
theorem lateS_inj {i j : Nat} (h : 16 < i) (h' : i < 22) (g : 16 < j) (g' : j < 22) (e : lateS i = lateS j) : i = j := by
  have h1 : i = 17 ∨ i = 18 ∨ i = 19 ∨ i = 20 ∨ i = 21 := by omega
  have h2 : j = 17 ∨ j = 18 ∨ j = 19 ∨ j = 20 ∨ j = 21 := by omega
  rcases h1 with rfl | rfl | rfl | rfl | rfl <;> rcases h2 with rfl | rfl | rfl | rfl | rfl <;> first | rfl | (simp [lateS] at e)
/-- An operation behind the call. -/
theorem I47.after (hv : ∀ j, j < 16 → listed.getD j false = true → valT rs ns B ks qi ri now v32 j (U (190 + j))) (h16 : listed.getD 16 false = true) {got : Value} {c : Int} (hA : A got c W) (h206 : U 206 = .tuple #[got, .int .i64 c]) (hl : ∀ i, 16 < i → i < 22 → listed.getD i false = true → U (lateS i) = lateV i got c) {i : Nat} (hi : 16 < i) (hi' : i < 22)
    {a : Act} (ha : a = fr C (setU U (lateS i) (lateV i got c))) : I47 C rs ns B ks qi ri now v32 wp A (listed.setIfInBounds i true) a W := by
  have hS := lateS_late hi hi'
  refine ⟨setU U (lateS i) (lateV i got c), ha, fun j hj hL => ?_, fun h1 => ?_, fun _ => ⟨got, c, hA, ?_, fun k h1 h2 h => ?_⟩⟩
  · rw [getD_set (by omega)] at hL
    have : setU U (lateS i) (lateV i got c) (190 + j) = U (190 + j) := by unfold setU; rw [if_neg (by omega)]
    rw [this]
    exact hv j hj hL
  · rw [getD_set (by omega), h16] at h1
    cases h1
  · unfold setU; rw [if_neg (by omega)]; exact h206
  · by_cases e : k = i
    · subst e; unfold setU; rw [if_pos rfl]
    · rw [getD_set (fun x => e x.symm)] at h
      unfold setU
      rw [if_neg (fun x => e (lateS_inj h1 h2 hi hi' x))]
      exact hl k h1 h2 h
end
end Go.Proofs.Ybulkcfbe.tab
