/- (*pit).take. -/
import Derived.Test.YbulkcfbeRemoved
import Derived.Laws.IdiomStrings
import Derived.Maps.OwnSet
namespace Go.Proofs.Ybulkcfbe.pd
open Go.ChangeShapes Go.WideShapes Go.ChangeAt Go.RowKit
open Go.Proofs.Ybulkcfbe.tm Go.Proofs.Ybulkcfbe.sm
open Go.ChangeMaps (setBlock)
set_option linter.unusedVariables false
theorem wpList_delete {P : Program} {ops : Array Oper} {rest : List Oper} {o : Oper} {a : Act} {Q : Exit → Act → World → Prop} {w w' : World} (hgd : o.guard = none) (m x : Operand) (t k : TypeId)
    (ho : o.op = .call { callee := .builtin .delete, args := #[m, x], argTypes := #[t, k] }) (b : Nat) (hm : a.eval m = .map (some b)) (s : ByteArray) (hx : a.eval x = .string s)
    (hrun : (Builtin.delete_ #[t, k] o.type #[.map (some b), .string s]).run P w = .ok (.tuple #[]) w') (h : wpList P ops Q rest (a.put o.dst (.tuple #[])) w') : wpList P ops Q (o :: rest) a w := by
  refine wpList_plain hgd fun K hK => ?_
  unfold Oper.wp execOp
  simp only [ho, resolve, invoke, builtin, Sem.run_bind, Sem.run_pure, Result.andThen_ok, List.map_toArray, List.map_cons, List.map_nil, hm, hx, hrun]
  exact hK _ _ h
/-- The bytes s lie at the start of block b. -/
def Txt (w : World) (b : Nat) (s : List UInt8) : Prop := ∀ j (hj : j < s.length), w.cell? ⟨b, j, none⟩ = some (.int .u8 (s[j].toNat : Int))
theorem Txt.conv {w W : World} {b : Nat} {s : List UInt8} (h : Txt w b s) (cap : Nat) (hW : ∀ j (hj : j < s.length), W.cell? ⟨b, j, none⟩ = w.cell? ⟨b, j, none⟩) : (convert 53 9 (.slice (some ⟨b, 0, none⟩) s.length cap)).run Yba.prog W = .ok (.string ⟨s.toArray⟩) W :=
  run_convert_bytes_back (P := Yba.prog) W 53 9 5 ⟨b, 0, none⟩ cap s Yba.underlying53 Yba.underlying5 Yba.underlying9 (fun j hj => by
    have e : (⟨b, 0, none⟩ : Addr).add j = ⟨b, j, none⟩ := by
      by_cases e : j = 0
      · subst e; rfl
      · simp [Addr.add, e]
    rw [e, hW j hj]
    exact h j hj)
theorem zero61 (w : World) : (zeroValue 61).run Yba.prog w = .ok (.map none) w := by kernel_rfl
theorem zero59 (w : World) : (zeroValue 59).run Yba.prog w = .ok (.agg #[.slice none 0 0, .int .u8 0, .slice none 0 0, .string ⟨#[]⟩]) w := by kernel_rfl
set_option maxHeartbeats 1600000 in
/-- (*pit).take where the entry is not there. -/
theorem take_none (B E br bn cr cn cE : Nat) (cells : Array Value) (sr sn : List UInt8) (esE : Array MapEntry) (v nv : Value) (now : Int) (w : World) (ht : w.heap[B]? = some (.cells cells 39 (0, 0))) (h0 : cells[0]? = some (.map (some E))) (hE : w.heap[E]? = some (.map esE cE)) (hgE : StrKeys esE.toList)
    (hr : Txt w br sr) (hn : Txt w bn sn) (lr : br < w.heap.size) (ln : bn < w.heap.size) (hnv : (lookS esE.toList ⟨sr.toArray⟩).getD (.map none) = nv)
    (hno : nv = .map none ∨ ∃ M es c, nv = .map (some M) ∧ w.heap[M]? = some (.map es c) ∧ StrKeys es.toList ∧ lookS es.toList ⟨sn.toArray⟩ = none) :
    Calls Yba.prog 7 #[.pointer (some ⟨B, 0, none⟩), v, .agg #[.slice (some ⟨br, 0, none⟩) sr.length cr, .slice (some ⟨bn, 0, none⟩) sn.length cn], .agg #[.int .u64 (now % 1000000000), .int .i64 (now / 1000000000), .pointer none]] w fun e w' => e = .returned (.tuple #[v, .int .i64 0]) ∧ Below w.heap.size w w' := by
  obtain ⟨W0, hW0⟩ : ∃ W0, W0 = (w.alloc (.cells #[.slice (some ⟨br, 0, none⟩) sr.length cr, .slice (some ⟨bn, 0, none⟩) sn.length cn] 65)).alloc (.cells #[.int .u64 (now % 1000000000), .int .i64 (now / 1000000000), .pointer none] 37) := ⟨_, rfl⟩
  have old : ∀ k, k < w.heap.size → W0.heap[k]? = w.heap[k]? := fun k hk => by rw [hW0, Below.heap_alloc _ _ _ (by simp; omega), Below.heap_alloc _ _ _ hk]
  have oc : ∀ b j, b < w.heap.size → W0.cell? ⟨b, j, none⟩ = w.cell? ⟨b, j, none⟩ := fun b j hb => by simp only [World.cell?, old b hb]
  have lB := lt_heap ht
  have cB : w.cell? ⟨B, 0, none⟩ = some (.map (some E)) := by simp [World.cell?, ht, h0]
  have q1 := hr.conv (W := W0.drew) cr (fun j _ => oc br j lr)
  have q2 : (Instr.lookup 30 (.map (some E)) (.string ⟨sr.toArray⟩) false).run Yba.prog W0.drew = .ok nv W0.drew := by
    have := run_lookup (P := Yba.prog) (w := W0.drew) (m := E) (clock := cE) Yba.underlying9 Yba.underlying30 (zero61 _) ((old E (lt_heap hE)).trans hE) hgE ⟨sr.toArray⟩ false
    rw [this, hnv]
    rfl
  have q3 := hn.conv (W := W0.drew) cn (fun j _ => oc bn j ln)
  have q4 : (Instr.lookup 61 nv (.string ⟨sn.toArray⟩) true).run Yba.prog W0.drew = .ok (.tuple #[.agg #[.slice none 0 0, .int .u8 0, .slice none 0 0, .string ⟨#[]⟩], .bool false]) W0.drew := by
    rcases hno with rfl | ⟨M, es, c, rfl, hM, hg, hl⟩
    · exact run_lookup_nil (P := Yba.prog) Yba.underlying9 Yba.underlying61 (zero59 _) _ true
    · have := run_lookup (P := Yba.prog) (w := W0.drew) (m := M) (clock := c) Yba.underlying9 Yba.underlying61 (zero59 _) ((old M (lt_heap hM)).trans hM) hg ⟨sn.toArray⟩ true
      rw [this, hl]
      rfl
  have HB : Hid (Below w.heap.size w W0) := by rw [hW0]; exact ((Below.refl _ _).alloc (Nat.le_refl _) _).alloc (by simp) _
  rw [hW0] at q1 q2 q3 q4 HB
  clear old oc ht h0 hE hgE hr hn hnv hno hW0
  go_enter Yba.func7, Yba.ntmps7
  go_wp2_with fail
  go_region
  go_wp2
  go_ret2
  exact ⟨rfl, (HB.out.alloc (by simp; omega) _).drew⟩
structure Taken (B E T M base n : Nat) (hm size cap bcap bytes now : Int) (rnp sn : ByteArray) (xs : List Value) (ws : List Pend) (es esM : Array MapEntry) (v : Value) (w w' : World) : Prop where
  own : w'.ownsRow base 55 8 v (n + (live now ws).length) (xs ++ flat (live now ws))
  t : w'.heap[B]? = some (.cells (pitC E T hm (wrap64 (size - 1)) cap bcap (bytesOf bytes ws)) 39 (0, 0))
  map : ∃ es' clock', w'.heap[T]? = some (.map es' clock') ∧ StrKeys es'.toList ∧ (∀ k, lookS es'.toList k = if rnp ≠ ⟨#[]⟩ ∧ k = rnp then none else lookS es.toList k)
  names : ∃ es' clock', w'.heap[M]? = some (.map es' clock') ∧ StrKeys es'.toList ∧ (∀ k, lookS es'.toList k = if k = sn then none else lookS esM.toList k)
  kept : Kept (fun k => k = B ∨ k = T ∨ k = M ∨ base ≤ k) w w'
set_option maxRecDepth 100000 in
set_option maxHeartbeats 1600000 in
/-- (*pit).take where the entry is there. -/
theorem take_some (B E T M g c br bn cr cn cE cT cM base n : Nat) (hm size cap bcap bytes now : Int) (rnp : ByteArray) (sr sn : List UInt8) (xs : List Value) (ws : List Pend) (es esE esM : Array MapEntry) (v : Value) (w : World)
    (ht : w.heap[B]? = some (.cells (pitC E T hm size cap bcap bytes) 39 (0, 0))) (hE : w.heap[E]? = some (.map esE cE)) (hgE : StrKeys esE.toList) (hT : w.heap[T]? = some (.map es cT)) (hgT : StrKeys es.toList) (hM : w.heap[M]? = some (.map esM cM)) (hgM : StrKeys esM.toList) (hMT : M ≠ T)
    (hr : Txt w br sr) (hn : Txt w bn sn) (lr : br < w.heap.size) (ln : bn < w.heap.size) (hlE : lookS esE.toList ⟨sr.toArray⟩ = some (.map (some M))) (hlM : lookS esM.toList ⟨sn.toArray⟩ = some (entV g ws.length c rnp))
    (hrow : Row w g ws) (hgb : g < base) (hMb : M < base) (hbw : base ≤ w.heap.size) (hown : w.ownsRow base 55 8 v n xs) (hlen : n + ws.length ≤ 100000) :
    Calls Yba.prog 7 #[.pointer (some ⟨B, 0, none⟩), v, .agg #[.slice (some ⟨br, 0, none⟩) sr.length cr, .slice (some ⟨bn, 0, none⟩) sn.length cn], .agg #[.int .u64 (now % 1000000000), .int .i64 (now / 1000000000), .pointer none]] w fun e w' => ∃ v', e = .returned (.tuple #[v', .int .i64 1]) ∧ Taken B E T M base n hm size cap bcap bytes now rnp ⟨sn.toArray⟩ xs ws es esM v' w w' := by
  obtain ⟨W0, hW0⟩ : ∃ W0, W0 = (w.alloc (.cells #[.slice (some ⟨br, 0, none⟩) sr.length cr, .slice (some ⟨bn, 0, none⟩) sn.length cn] 65)).alloc (.cells #[.int .u64 (now % 1000000000), .int .i64 (now / 1000000000), .pointer none] 37) := ⟨_, rfl⟩
  obtain ⟨W3, hW3⟩ : ∃ W3, W3 = (W0.alloc (.cells #[.slice (some ⟨g, 0, none⟩) ws.length c, .int .u8 0, .slice none 0 0, .string rnp] 59)).drew := ⟨_, rfl⟩
  have old : ∀ k, k < w.heap.size → W0.heap[k]? = w.heap[k]? := fun k hk => by rw [hW0, Below.heap_alloc _ _ _ (by simp; omega), Below.heap_alloc _ _ _ hk]
  have s0 : W0.heap.size = w.heap.size + 2 := by rw [hW0]; simp
  have old3 : ∀ k, k < w.heap.size → W3.heap[k]? = w.heap[k]? := fun k hk => by
    rw [hW3]
    show (W0.alloc _).heap[k]? = _
    rw [Below.heap_alloc _ _ _ (by omega)]
    exact old k hk
  have s3 : W3.heap.size = w.heap.size + 3 := by rw [hW3]; show (W0.alloc _).heap.size = _; simp [s0]
  have oc : ∀ b j, b < w.heap.size → W0.cell? ⟨b, j, none⟩ = w.cell? ⟨b, j, none⟩ := fun b j hb => by simp only [World.cell?, old b hb]
  have oc3 : ∀ b j, b < w.heap.size → W3.cell? ⟨b, j, none⟩ = w.cell? ⟨b, j, none⟩ := fun b j hb => by simp only [World.cell?, old3 b hb]
  have lB := lt_heap ht
  have lT := lt_heap hT
  have lM := lt_heap hM
  have cB : w.cell? ⟨B, 0, none⟩ = some (.map (some E)) := by simp [World.cell?, ht, pitC]
  have q1 := hr.conv (W := W0.drew) cr (fun j _ => oc br j lr)
  have q2 : (Instr.lookup 30 (.map (some E)) (.string ⟨sr.toArray⟩) false).run Yba.prog W0.drew = .ok (.map (some M)) W0.drew := by
    have := run_lookup (P := Yba.prog) (w := W0.drew) (m := E) (clock := cE) Yba.underlying9 Yba.underlying30 (zero61 _) ((old E (lt_heap hE)).trans hE) hgE ⟨sr.toArray⟩ false
    rw [this, hlE]
    rfl
  have q3 := hn.conv (W := W0.drew) cn (fun j _ => oc bn j ln)
  have q4 : (Instr.lookup 61 (.map (some M)) (.string ⟨sn.toArray⟩) true).run Yba.prog W0.drew = .ok (.tuple #[.agg #[.slice (some ⟨g, 0, none⟩) ws.length c, .int .u8 0, .slice none 0 0, .string rnp], .bool true]) W0.drew := by
    have := run_lookup (P := Yba.prog) (w := W0.drew) (m := M) (clock := cM) Yba.underlying9 Yba.underlying61 (zero59 _) ((old M lM).trans hM) hgM ⟨sn.toArray⟩ true
    rw [this, hlM]
    rfl
  have q5 := hn.conv (W := W3) cn (fun j _ => oc3 bn j ln)
  obtain ⟨esM', hrun, d1, d2, d3⟩ := run_delete (P := Yba.prog) (w := W3) Yba.underlying9 Yba.underlying61 ((old3 M lM).trans hM) hgM ⟨sn.toArray⟩ 0
  obtain ⟨W5, hW5⟩ : ∃ W5, W5 = setBlock W3 M (.map esM' cM) := ⟨_, rfl⟩
  rw [← hW5] at hrun
  have nb : ∀ k, k < w.heap.size → k ≠ M → W5.heap[k]? = w.heap[k]? := fun k hk h => by rw [hW5, setBlock_block, if_neg (fun e => h e.symm)]; exact old3 k hk
  have s5 : W5.heap.size = w.heap.size + 3 := by rw [hW5]; show (W3.heap.setIfInBounds _ _).size = _; simp [s3]
  have bM : W5.heap[M]? = some (.map esM' cM) := by rw [hW5, setBlock_block, if_pos rfl, if_pos (by omega)]
  have nBM : B ≠ M := by intro e; subst e; rw [hM] at ht; cases ht
  have nGM : g ≠ M := by intro e; subst e; obtain ⟨_, h, _⟩ := hrow; rw [hM] at h; cases h
  have bOwn : W5.ownsRow base 55 8 v n xs := by
    refine ⟨hown.1, ?_⟩
    rcases hown.2 with h2 | ⟨g', cap', cur, hv, hg', hh, r⟩
    · exact .inl h2
    · refine .inr ⟨g', cap', cur, hv, hg', (nb g' (lt_heap hh) ?_).trans hh, r⟩
      intro e; subst e; rw [hM] at hh; cases hh
  have bRow : Row W5 g ws := by
    obtain ⟨cur, h1, h2⟩ := hrow
    exact ⟨cur, (nb g (lt_heap h1) nGM).trans h1, h2⟩
  have kW5 : Kept (fun k => k = B ∨ k = T ∨ k = M ∨ base ≤ k) w W5 := by
    rw [hW5, hW3, hW0]
    exact ((((Kept.refl (fun k => k = B ∨ k = T ∨ k = M ∨ base ≤ k) w).alloc _).alloc _).alloc _).drew.setBlock (.inl (.inr (.inr (.inl rfl)))) _
  have hcall := removed B E T g c cT base n hm size cap bcap bytes now rnp xs ws es v W5 ((nb B lB nBM).trans ht) ((nb T lT (fun e => hMT e.symm)).trans hT) hgT bRow hgb (by omega) bOwn hlen
  have HC : Hid (∀ v' w', Removed B E T base n hm size cap bcap bytes now rnp xs ws es v' W5 w' → Taken B E T M base n hm size cap bcap bytes now rnp ⟨sn.toArray⟩ xs ws es esM v' w w') := fun v' w' h => by
    refine ⟨h.own, h.t, ?_, ?_, kW5.trans (h.kept.mono fun k _ e => by rcases e with e | e | e; exact .inl e; exact .inr (.inl e); exact .inr (.inr (.inr e)))⟩
    · obtain ⟨e1, c1, a1, a2, a3, _⟩ := h.map
      exact ⟨e1, c1, a1, a2, a3⟩
    · refine ⟨esM', cM, (h.kept.block M (by omega) ?_).trans bM, d1, d2⟩
      intro e
      rcases e with e | e | e
      · exact nBM e.symm
      · exact hMT e
      · omega
  have y0 : W5.cell? ⟨w.heap.size + 2, 0, none⟩ = some (.slice (some ⟨g, 0, none⟩) ws.length c) ∧ W5.cell? ⟨w.heap.size + 2, 1, none⟩ = some (.int .u8 0) ∧ W5.cell? ⟨w.heap.size + 2, 2, none⟩ = some (.slice none 0 0) ∧ W5.cell? ⟨w.heap.size + 2, 3, none⟩ = some (.string rnp) := by
    have : W5.heap[w.heap.size + 2]? = some (.cells #[.slice (some ⟨g, 0, none⟩) ws.length c, .int .u8 0, .slice none 0 0, .string rnp] 59) := by
      rw [hW5, setBlock_block, if_neg (by omega), hW3]
      show (W0.heap.push _)[w.heap.size + 2]? = _
      rw [Array.getElem?_push, if_pos s0.symm]
    simp [World.cell?, this]
  have y1 : W5.cell? ⟨w.heap.size + 1, 0, none⟩ = some (.int .u64 (now % 1000000000)) ∧ W5.cell? ⟨w.heap.size + 1, 1, none⟩ = some (.int .i64 (now / 1000000000)) ∧ W5.cell? ⟨w.heap.size + 1, 2, none⟩ = some (.pointer none) := by
    have : W5.heap[w.heap.size + 1]? = some (.cells #[.int .u64 (now % 1000000000), .int .i64 (now / 1000000000), .pointer none] 37) := by
      rw [hW5, setBlock_block, if_neg (by omega), hW3]
      show (W0.heap.push _)[w.heap.size + 1]? = _
      rw [Array.getElem?_push, if_neg (by omega), hW0]
      show ((w.alloc _).heap.push _)[w.heap.size + 1]? = _
      rw [Array.getElem?_push, if_pos (by simp)]
    simp [World.cell?, this]
  have HR : Hid ((Builtin.delete_ #[61, 9] 0 #[.map (some M), .string ⟨sn.toArray⟩]).run Yba.prog W3 = .ok (.tuple #[]) W5) := hrun
  unfold entV at hcall
  rw [hW3, hW0] at q5 HR
  rw [hW0] at q1 q2 q3 q4
  obtain ⟨y00, y01, y02, y03⟩ := y0
  obtain ⟨y10, y11, y12⟩ := y1
  clear old old3 oc oc3 ht hE hgE hT hgT hM hgM hr hn hlE hlM hrow hown nb bM bOwn bRow kW5 d1 d2 d3 hrun hW5 hW3 hW0 s0 s3 s5 lT lM
  go_enter Yba.func7, Yba.ntmps7
  go_wp2_with fail
  go_region
  go_wp2_with (at_delete; go_must (refine wpList_delete rfl _ _ 61 9 rfl M rfl ⟨sn.toArray⟩ rfl HR.out ?_))
  refine hcall.mono ?_
  rintro _ w' ⟨v', rfl, hR⟩
  have HT : Hid (Taken B E T M base n hm size cap bcap bytes now rnp ⟨sn.toArray⟩ xs ws es esM v' w w') := HC.out v' w' hR
  clear hR HC hcall
  go_wp2
  go_ret2
  exact ⟨v', rfl, HT.out⟩
end Go.Proofs.Ybulkcfbe.pd
