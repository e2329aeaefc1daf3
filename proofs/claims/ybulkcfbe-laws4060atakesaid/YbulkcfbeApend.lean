/- zzs4060apend, zzs4060arnp, AddrPortFrom. -/
import Derived.Test.YbulkcfbeInv
import Derived.Test.YbulkcfbeRemoved
import Derived.Laws.IdiomStrings
namespace Go.Proofs.Ybulkcfbe.pd
open Go.ChangeShapes Go.WideShapes Go.ChangeAt Go.RowKit
open Go.Proofs.Ybulkcfbe.tm Go.Proofs.Ybulkcfbe.inv
set_option linter.unusedVariables false
def frA (p x : Int) (l : Nat) (B : Nat) (U : Nat → Value) : Act :=
  ⟨#[.agg #[.int .u16 p, .int .i32 x, .int .u8 l], .pointer (some ⟨B, 0, none⟩), .pointer (some ⟨B + 1, 0, none⟩), U 3, U 4, U 5, U 6, U 7, U 8, U 9, U 10, U 11, U 12, U 13, U 14, U 15, U 16], []⟩
def valA (p x : Int) (l : Nat) (B : Nat) (j : Nat) (v : Value) : Prop :=
  match j with
  | 0 => v = .agg #[.int .u64 0, .int .u64 0, .pointer none]
  | 1 => v = .pointer (some ⟨B, 0, none⟩)
  | 2 => v = .int .u16 p
  | 3 => v = .agg #[.int .u64 0, .int .u64 0, .pointer none, .int .u16 p]
  | 4 => v = .agg #[.int .u64 0, .int .i64 0, .pointer none]
  | 5 => v = .pointer (some ⟨B, 1, none⟩)
  | 6 => v = .int .i32 x
  | 7 => v = .int .i64 x
  | 8 => v = .agg #[.int .u64 (x % 1000000000), .int .i64 (x / 1000000000), .pointer none]
  | 9 => v = .pointer (some ⟨B, 2, none⟩)
  | 10 => v = .int .u8 l
  | 11 => v = .int .i64 l
  | 12 => ∃ g, v = .slice (some ⟨g, 0, none⟩) l l
  | 13 => ∃ g, v = .agg #[.int .u64 0, .int .u64 0, .pointer none, .int .u16 p, .int .u64 (x % 1000000000), .int .i64 (x / 1000000000), .pointer none, .slice (some ⟨g, 0, none⟩) l l]
  | _ => True
structure WA (p x : Int) (l : Nat) (w : World) (done : Bool) (W : World) : Prop where
  bel : Below w.heap.size w W
  box : W.heap[w.heap.size]? = some (.cells #[.int .u16 p, .int .i32 x, .int .u8 l] 43 (0, 0))
  res : if done = true then ∃ g, W.heap[w.heap.size + 1]? = some (.cells #[.int .u64 0, .int .u64 0, .pointer none, .int .u16 p, .int .u64 (x % 1000000000), .int .i64 (x / 1000000000), .pointer none, .slice (some ⟨g, 0, none⟩) l l] 55 (0, 0))
    else W.heap[w.heap.size + 1]? = some (.cells #[.int .u64 0, .int .u64 0, .pointer none, .int .u16 0, .int .u64 0, .int .i64 0, .pointer none, .slice none 0 0] 55 (0, 0))
def IA (p x : Int) (l : Nat) (w : World) (listed : Array Bool) (a : Act) (W : World) : Prop :=
  ∃ U, a = frA p x l w.heap.size U ∧ (∀ j, j < 14 → listed.getD j false = true → valA p x l w.heap.size j (U (j + 3))) ∧ WA p x l w (listed.getD 14 false) W
theorem IA.next {p x : Int} {l : Nat} {w W' : World} {listed : Array Bool} {U : Nat → Value} (hv : ∀ j, j < 14 → listed.getD j false = true → valA p x l w.heap.size j (U (j + 3))) {i : Nat} (hi : i < 14) (v : Value) (hval : valA p x l w.heap.size i v) (hW : WA p x l w (listed.getD 14 false) W') {a : Act} (ha : a = frA p x l w.heap.size (fun k => if k = i + 3 then v else U k)) :
    IA p x l w (listed.setIfInBounds i true) a W' := by
  refine ⟨_, ha, fun j hj hL => ?_, ?_⟩
  · by_cases e : j = i
    · subst e; simpa using hval
    · simp only [show ¬ j + 3 = i + 3 by omega, if_false]
      refine hv j hj ?_
      rw [Array.getD_eq_getD_getElem?, Array.getElem?_setIfInBounds, if_neg (fun x => e x.symm), ← Array.getD_eq_getD_getElem?] at hL
      exact hL
  · rw [Array.getD_eq_getD_getElem?, Array.getElem?_setIfInBounds, if_neg (by omega), ← Array.getD_eq_getD_getElem?]
    exact hW
theorem WA.alloc {p x : Int} {l : Nat} {w W : World} {d : Bool} (h : WA p x l w d W) (o : Obj) : WA p x l w d (W.alloc o) := by
  have l0 := Go.Proofs.Ybulkcfbe.sm.lt_heap h.box
  refine ⟨h.bel.alloc (by omega) o, (Below.heap_alloc _ _ _ l0).trans h.box, ?_⟩
  cases d with
  | true =>
    obtain ⟨g, hg⟩ := h.res
    exact ⟨g, (Below.heap_alloc _ _ _ (Go.Proofs.Ybulkcfbe.sm.lt_heap hg)).trans hg⟩
  | false =>
    have hg := h.res
    exact (Below.heap_alloc _ _ _ (Go.Proofs.Ybulkcfbe.sm.lt_heap hg)).trans hg
theorem addrPortFrom (p : Int) (w : World) : Calls Yba.prog 10 #[.agg #[.int .u64 0, .int .u64 0, .pointer none], .int .u16 p] w fun e w' => e = .returned (.agg #[.int .u64 0, .int .u64 0, .pointer none, .int .u16 p]) ∧ ∃ o1 o2, w' = (w.alloc o1).alloc o2 := by
  go_enter Yba.func10, Yba.ntmps10
  go_wp2
  exact bodyPost_ret (v := .agg #[.int .u64 0, .int .u64 0, .pointer none, .int .u16 p]) (by simp [results, Yba.results10, go_sem]) rfl ⟨rfl, _, _, rfl⟩
/-- The name of slot s's template. -/
def tS (s : Nat) : ByteArray := ⟨[116, (48 + s).toUInt8].toArray⟩
theorem arnp (s : Nat) (hs : s < 8) (w : World) : Calls Yba.prog 6 #[.int .i64 s] w fun e w' => e = .returned (.string (tS s)) ∧ ∃ o1, w' = w.alloc o1 := by
  have hcv := run_convert_bytes_back (P := Yba.prog) (w.alloc (.cells #[.int .u8 116, .int .u8 (48 + s)] 5)) 53 9 5 ⟨w.heap.size, 0, none⟩ 2 [116, (48 + s).toUInt8] Yba.underlying53 Yba.underlying5 Yba.underlying9 (by
    intro j hj
    have : j = 0 ∨ j = 1 := by simp at hj; omega
    rcases this with rfl | rfl
    · simp [Addr.add]
    · have : (48 + s) % 256 = 48 + s := Nat.mod_eq_of_lt (by omega)
      simp [Addr.add, this])
  have hc2 : (convert 53 9 (.slice (some ⟨w.heap.size, 0, none⟩) 2 2)).run Yba.prog (w.alloc (.cells #[.int .u8 116, .int .u8 (48 + s)] 5)) = .ok (.string (tS s)) (w.alloc (.cells #[.int .u8 116, .int .u8 (48 + s)] 5)) := hcv
  clear hcv
  go_enter Yba.func6, Yba.ntmps6
  go_wp2
  go_ret
  exact ⟨rfl, _, rfl⟩
theorem info5 : (Yba.prog.info? 5).map (fun i => (i.zero, i.size, i.bytes)) = some (some (.int .u8 0), 1, 1) := by kernel_rfl
theorem add' (d : Int) (w : World) (hd : -2147483648 ≤ d ∧ d ≤ 2147483647) :
    Calls Yba.prog 8 #[.agg #[.int .u64 0, .int .i64 0, .pointer none], .int .i64 d] w fun e w' => e = .returned (.agg #[.int .u64 (d % 1000000000), .int .i64 (d / 1000000000), .pointer none]) ∧ ∃ o1 o2, w' = (w.alloc o1).alloc o2 := add d w hd
theorem WA.store {p x : Int} {l : Nat} {w W : World} (h : WA p x l w false W) (g : Nat) : WA p x l w true ((((((((W.setCell ⟨w.heap.size + 1, 0, none⟩ (.int .u64 0)).setCell ⟨w.heap.size + 1, 1, none⟩ (.int .u64 0)).setCell ⟨w.heap.size + 1, 2, none⟩ (.pointer none)).setCell ⟨w.heap.size + 1, 3, none⟩ (.int .u16 p)).setCell ⟨w.heap.size + 1, 4, none⟩ (.int .u64 (x % 1000000000))).setCell ⟨w.heap.size + 1, 5, none⟩ (.int .i64 (x / 1000000000))).setCell ⟨w.heap.size + 1, 6, none⟩ (.pointer none)).setCell ⟨w.heap.size + 1, 7, none⟩ (.slice (some ⟨g, 0, none⟩) l l)) := by
  have hr : W.heap[w.heap.size + 1]? = some (.cells #[.int .u64 0, .int .u64 0, .pointer none, .int .u16 0, .int .u64 0, .int .i64 0, .pointer none, .slice none 0 0] 55 (0, 0)) := h.res
  have hb : ∀ {A : World} (o : Nat) (v : Value), Below w.heap.size w A → Below w.heap.size w (A.setCell ⟨w.heap.size + 1, o, none⟩ v) := fun o v h => h.setCell (by show _ ≤ _ + 1; omega) v
  have hx : ∀ {A : World} (o : Nat) (v : Value) {ob : Obj}, A.heap[w.heap.size]? = some ob → (A.setCell ⟨w.heap.size + 1, o, none⟩ v).heap[w.heap.size]? = some ob   := by
    intro A o v ob h
    rw [Below.heap_setCell _ _ _ _ (show w.heap.size ≠ w.heap.size + 1 by omega)]; exact h
  refine ⟨hb _ _ (hb _ _ (hb _ _ (hb _ _ (hb _ _ (hb _ _ (hb _ _ (hb _ _ h.bel))))))), hx _ _ (hx _ _ (hx _ _ (hx _ _ (hx _ _ (hx _ _ (hx _ _ (hx _ _ h.box))))))), ?_⟩
  exact ⟨g, block_set _ (block_set _ (block_set _ (block_set _ (block_set _ (block_set _ (block_set _ (block_set _ hr)))))))⟩
set_option maxRecDepth 100000 in
set_option maxHeartbeats 1600000 in
theorem apend (p x : Int) (l : Nat) (w : World) (hx : -2147483648 ≤ x ∧ x ≤ 2147483647) (hl : l ≤ 255) :
    Calls Yba.prog 5 #[.agg #[.int .u16 p, .int .i32 x, .int .u8 l]] w fun e w' => ∃ g, e = .returned (.agg #[.int .u64 0, .int .u64 0, .pointer none, .int .u16 p, .int .u64 (x % 1000000000), .int .i64 (x / 1000000000), .pointer none, .slice (some ⟨g, 0, none⟩) l l]) ∧ Below w.heap.size w w' := by
  have hwx : IntKind.i64.wrap x = x := by
    simp only [IntKind.wrap, IntKind.bits, IntKind.signed]
    simp
    omega
  have hwl : IntKind.i64.wrap (l : Int) = l := by
    simp only [IntKind.wrap, IntKind.bits, IntKind.signed]
    simp
    omega
  obtain ⟨o5, hmk⟩ : ∃ o5, ∀ W, (Instr.makeSlice 53 (.int .i64 l) (.int .i64 l)).run Yba.prog W = .ok (.slice (some ⟨W.heap.size, 0, none⟩) l l) (W.alloc o5) := by
    obtain ⟨i, hi, hz, hs, hb⟩ := info_of info5
    refine ⟨_, fun W => (run_make W 53 5 i _ Yba.underlying53 hi hz .i64 .i64 l l (by omega) (by omega) (by rw [hb]; omega) (by omega)).trans rfl⟩
  go_enter Yba.func5, Yba.ntmps5
  go_wp2_with fail
  refine wp_region_any (by kernel_rfl) ?_
  refine wpAny_inv (down_of (by kernel_rfl)) (IA p x l w) ?_ ?_ _ _ _ _ (by simp) ?_ ?_
  · intro listed a W i o hI hs hL ho hdep
    obtain ⟨U, rfl, hv, hW⟩ := hI
    have hi : i < 15 := (Array.getElem?_eq_some_iff.1 ho).1
    have hb := hW.box
    have c0 : W.cell? ⟨w.heap.size, 0, none⟩ = some (.int .u16 p) := by simp [World.cell?, hb]
    have c1 : W.cell? ⟨w.heap.size, 1, none⟩ = some (.int .i32 x) := by simp [World.cell?, hb]
    have c2 : W.cell? ⟨w.heap.size, 2, none⟩ = some (.int .u8 l) := by simp [World.cell?, hb]
    have HV : Hid (∀ j, j < 14 → listed.getD j false = true → valA p x l w.heap.size j (U (j + 3))) := hv
    have HWA : Hid (WA p x l w (listed.getD 14 false) W) := hW
    have H15 : Hid (listed.size = 15 ∧ listed.getD i true = false) := ⟨hs, hL⟩
    clear hv hW hb hs hL
    have : i = 0 ∨ i = 1 ∨ i = 2 ∨ i = 3 ∨ i = 4 ∨ i = 5 ∨ i = 6 ∨ i = 7 ∨ i = 8 ∨ i = 9 ∨ i = 10 ∨ i = 11 ∨ i = 12 ∨ i = 13 ∨ i = 14 := by omega
    rcases this with rfl | rfl | rfl | rfl | rfl | rfl | rfl | rfl | rfl | rfl | rfl | rfl | rfl | rfl | rfl
    all_goals
      refine wpOp_step ho fun K' hK0 => ?_
      have hK : Hid (∀ a w_1, IA p x l w (listed.setIfInBounds _ true) a w_1 → K' a w_1) := hK0
      clear hK0
      simp at ho
      subst ho
    · clear hdep
      unfold frA
      go_simp
      exact hK.out _ _ (IA.next (i := 0) HV.out (by omega) _ (by exact rfl) HWA.out rfl)
    · clear hdep
      unfold frA
      go_simp
      exact hK.out _ _ (IA.next (i := 1) HV.out (by omega) _ (by exact rfl) HWA.out rfl)
    · have e1 : U 4 = _ := HV.out 1 (by omega) (hdep ⟨1, .data⟩ (by simp) (by decide))
      clear hdep
      unfold frA
      go_simp
      exact hK.out _ _ (IA.next (i := 2) HV.out (by omega) _ (by exact rfl) HWA.out (by simp [frA, e1]))
    · have e1 : U 3 = _ := HV.out 0 (by omega) (hdep ⟨0, .data⟩ (by simp) (by decide))
      have e2 : U 5 = _ := HV.out 2 (by omega) (hdep ⟨2, .data⟩ (by simp) (by decide))
      clear hdep
      unfold frA
      go_simp
      refine (addrPortFrom p _).mono ?_
      rintro _ w1 ⟨rfl, o1, o2, rfl⟩
      exact hK.out _ _ (IA.next (i := 3) HV.out (by omega) _ (by exact rfl) ((HWA.out.alloc o1).alloc o2) (by simp [frA, e1, e2]))
    · clear hdep
      unfold frA
      go_simp
      exact hK.out _ _ (IA.next (i := 4) HV.out (by omega) _ (by exact rfl) HWA.out rfl)
    · clear hdep
      unfold frA
      go_simp
      exact hK.out _ _ (IA.next (i := 5) HV.out (by omega) _ (by exact rfl) HWA.out rfl)
    · have e1 : U 8 = _ := HV.out 5 (by omega) (hdep ⟨5, .data⟩ (by simp) (by decide))
      clear hdep
      unfold frA
      go_simp
      exact hK.out _ _ (IA.next (i := 6) HV.out (by omega) _ (by exact rfl) HWA.out (by simp [frA, e1]))
    · have e1 : U 9 = _ := HV.out 6 (by omega) (hdep ⟨6, .data⟩ (by simp) (by decide))
      clear hdep
      unfold frA
      go_simp
      exact hK.out _ _ (IA.next (i := 7) HV.out (by omega) (.int .i64 x) (by exact rfl) HWA.out (by simp [frA, e1]))
    · have e1 : U 7 = _ := HV.out 4 (by omega) (hdep ⟨4, .data⟩ (by simp) (by decide))
      have e2 : U 10 = _ := HV.out 7 (by omega) (hdep ⟨7, .data⟩ (by simp) (by decide))
      clear hdep
      unfold frA
      go_simp
      refine (add' x _ hx).mono ?_
      rintro _ w1 ⟨rfl, o1, o2, rfl⟩
      exact hK.out _ _ (IA.next (i := 8) HV.out (by omega) _ (by exact rfl) ((HWA.out.alloc o1).alloc o2) (by simp [frA, e1, e2]))
    · clear hdep
      unfold frA
      go_simp
      exact hK.out _ _ (IA.next (i := 9) HV.out (by omega) _ (by exact rfl) HWA.out rfl)
    · have e1 : U 12 = _ := HV.out 9 (by omega) (hdep ⟨9, .data⟩ (by simp) (by decide))
      clear hdep
      unfold frA
      go_simp
      exact hK.out _ _ (IA.next (i := 10) HV.out (by omega) _ (by exact rfl) HWA.out (by simp [frA, e1]))
    · have e1 : U 13 = _ := HV.out 10 (by omega) (hdep ⟨10, .data⟩ (by simp) (by decide))
      clear hdep
      unfold frA
      go_simp
      exact hK.out _ _ (IA.next (i := 11) HV.out (by omega) _ (by exact rfl) HWA.out (by simp [frA, e1]))
    · have e1 : U 14 = _ := HV.out 11 (by omega) (hdep ⟨11, .data⟩ (by simp) (by decide))
      clear hdep
      unfold frA
      go_simp
      exact hK.out _ _ (IA.next (i := 12) HV.out (by omega) (.slice (some ⟨W.heap.size, 0, none⟩) l l) (by exact ⟨_, rfl⟩) (HWA.out.alloc o5) (by simp [frA, e1]))
    · have e1 : U 6 = _ := HV.out 3 (by omega) (hdep ⟨3, .data⟩ (by simp) (by decide))
      have e2 : U 11 = _ := HV.out 8 (by omega) (hdep ⟨8, .data⟩ (by simp) (by decide))
      obtain ⟨g, e3⟩ : ∃ g, U 15 = .slice (some ⟨g, 0, none⟩) l l := HV.out 12 (by omega) (hdep ⟨12, .data⟩ (by simp) (by decide))
      clear hdep
      unfold frA
      go_simp
      exact hK.out _ _ (IA.next (i := 13) HV.out (by omega) _ (by exact ⟨g, rfl⟩) HWA.out (by simp [frA, e1, e2, e3]))
    · obtain ⟨g, e3⟩ : ∃ g, U 16 = .agg #[.int .u64 0, .int .u64 0, .pointer none, .int .u16 p, .int .u64 (x % 1000000000), .int .i64 (x / 1000000000), .pointer none, .slice (some ⟨g, 0, none⟩) l l] := HV.out 13 (by omega) (hdep ⟨13, .data⟩ (by simp) (by decide))
      have h14 : listed.getD 14 false = false := by
        have h1 := H15.out.1
        have h2 := H15.out.2
        rw [Array.getD_eq_getD_getElem?, Array.getElem?_eq_getElem (by omega)] at h2 ⊢
        exact h2
      have hW := HWA.out
      rw [h14] at hW
      have hr := hW.res
      have hr' : W.heap[w.heap.size + 1]? = some (.cells #[.int .u64 0, .int .u64 0, .pointer none, .int .u16 0, .int .u64 0, .int .i64 0, .pointer none, .slice none 0 0] 55 (0, 0)) := hr
      have d0 : W.cell? ⟨w.heap.size + 1, 0, none⟩ = some (.int .u64 0) := by simp [World.cell?, hr']
      have d1 : W.cell? ⟨w.heap.size + 1, 1, none⟩ = some (.int .u64 0) := by simp [World.cell?, hr']
      have d2 : W.cell? ⟨w.heap.size + 1, 2, none⟩ = some (.pointer none) := by simp [World.cell?, hr']
      have d3 : W.cell? ⟨w.heap.size + 1, 3, none⟩ = some (.int .u16 0) := by simp [World.cell?, hr']
      have d4 : W.cell? ⟨w.heap.size + 1, 4, none⟩ = some (.int .u64 0) := by simp [World.cell?, hr']
      have d5 : W.cell? ⟨w.heap.size + 1, 5, none⟩ = some (.int .i64 0) := by simp [World.cell?, hr']
      have d6 : W.cell? ⟨w.heap.size + 1, 6, none⟩ = some (.pointer none) := by simp [World.cell?, hr']
      have d7 : W.cell? ⟨w.heap.size + 1, 7, none⟩ = some (.slice none 0 0) := by simp [World.cell?, hr']
      have df : ∀ j, W.frozen? ⟨w.heap.size + 1, j, none⟩ = false := fun j => by simp [World.frozen?, hr']
      have HR : Hid (W.heap[w.heap.size + 1]? = some (.cells #[.int .u64 0, .int .u64 0, .pointer none, .int .u16 0, .int .u64 0, .int .i64 0, .pointer none, .slice none 0 0] 55 (0, 0))) := hr'
      have HW0 : Hid (WA p x l w false W) := hW
      clear hdep hr hr' hW h14
      unfold frA
      go_simp
      refine hK.out _ _ ⟨U, by simp [frA, e3], fun j hj hL => HV.out j hj ?_, ?_⟩
      · rw [Array.getD_eq_getD_getElem?, Array.getElem?_setIfInBounds, if_neg (by omega), ← Array.getD_eq_getD_getElem?] at hL
        exact hL
      · rw [Array.getD_eq_getD_getElem?, Array.getElem?_setIfInBounds, if_pos rfl, if_pos (by have := H15.out.1; omega)]
        exact HW0.out.store g
  · intro listed a W hI hall
    obtain ⟨U, rfl, hv, hW⟩ := hI
    have h14 := hall 14 (by simp)
    rw [h14] at hW
    obtain ⟨g, hr⟩ := hW.res
    have HB : Hid (Below w.heap.size w W) := hW.bel
    have d0 : W.cell? ⟨w.heap.size + 1, 0, none⟩ = some (.int .u64 0) := by simp [World.cell?, hr]
    have d1 : W.cell? ⟨w.heap.size + 1, 1, none⟩ = some (.int .u64 0) := by simp [World.cell?, hr]
    have d2 : W.cell? ⟨w.heap.size + 1, 2, none⟩ = some (.pointer none) := by simp [World.cell?, hr]
    have d3 : W.cell? ⟨w.heap.size + 1, 3, none⟩ = some (.int .u16 p) := by simp [World.cell?, hr]
    have d4 : W.cell? ⟨w.heap.size + 1, 4, none⟩ = some (.int .u64 (x % 1000000000)) := by simp [World.cell?, hr]
    have d5 : W.cell? ⟨w.heap.size + 1, 5, none⟩ = some (.int .i64 (x / 1000000000)) := by simp [World.cell?, hr]
    have d6 : W.cell? ⟨w.heap.size + 1, 6, none⟩ = some (.pointer none) := by simp [World.cell?, hr]
    have d7 : W.cell? ⟨w.heap.size + 1, 7, none⟩ = some (.slice (some ⟨g, 0, none⟩) l l) := by simp [World.cell?, hr]
    clear hv hall hW h14 hr
    unfold frA
    go_wp2
    exact bodyPost_ret (v := .agg #[.int .u64 0, .int .u64 0, .pointer none, .int .u16 p, .int .u64 (x % 1000000000), .int .i64 (x / 1000000000), .pointer none, .slice (some ⟨g, 0, none⟩) l l]) (by simp [results, Yba.results5, go_sem, d0, d1, d2, d3, d4, d5, d6, d7]) rfl ⟨g, rfl, HB.out⟩
  · decide
  · refine ⟨fun _ => undef, rfl, fun j hj hL => ?_, ?_⟩
    · exfalso
      simp [Array.getD] at hL
    · refine ⟨(((Below.refl _ _).alloc (Nat.le_refl _) _).alloc (by simp) _).drew, ?_, ?_⟩
      · show ((w.alloc _).alloc _).heap[w.heap.size]? = _
        rw [Below.heap_alloc _ _ _ (by simp)]
        show (w.heap.push _)[w.heap.size]? = _
        simp
      · show ((w.alloc _).heap.push _)[w.heap.size + 1]? = _
        rw [Array.getElem?_push, if_pos (by simp)]
end Go.Proofs.Ybulkcfbe.pd
