/- The table behind (*pit).take, and the call. -/
import Derived.Test.YbulkcfbeRound
import Derived.Test.YbulkcfbeTake
namespace Go.Proofs.Ybulkcfbe.tab
open Go.ChangeShapes Go.WideShapes Go.ChangeAt Go.RowKit
open Go.Proofs.Ybulkcfbe.tm Go.Proofs.Ybulkcfbe.sm Go.Proofs.Ybulkcfbe.pd
open Go.ChangeMaps (setBlock)
set_option linter.unusedVariables false
/-- The waits that stood in a place. -/
def psOf : Option Slot → List Pend
  | none => []
  | some e => e.ps
def rOf : Option Slot → Bool
  | none => false
  | some e => e.rnp
/-- Behind take; base: the first block behind the second loop. -/
structure Aft (B ks base : Nat) (w0 : World) (S : Nat → Option Slot) (R : Nat → Option Nat) (size bytes now : Int) (L : List Pend) (got : Value) (c : Int) (W : World) : Prop where
  bel : Below B w0 W
  restr : W.heap[B]? = some (.cells #[.string (rS 0), .string (rS 1)] 26 (0, 0))
  names : W.heap[B + 1]? = some (.cells #[.string (nS 0), .string (nS 1), .string (nS 2), .string (nS 3)] 27 (0, 0))
  pres : W.heap[B + 2]? = some (.cells (presA S) 28 (0, 0))
  model : W.heap[B + 3]? = some (.cells (modelA S) 29 (0, 0))
  rnps : W.heap[B + 4]? = some (.cells (rnpsA S) 28 (0, 0))
  cnt : c = if (S ks).isSome = true then 1 else 0
  own : W.ownsRow base 55 8 got (L.length + (live now (psOf (S ks))).length) (flat L ++ flat (live now (psOf (S ks))))
  t : W.heap[B + 7]? = some (.cells (pitC (B + 5) (B + 6) 0 (if (S ks).isSome = true then wrap64 (size - 1) else size) 0 0 (bytesOf bytes (psOf (S ks)))) 39 (0, 0))
  ent : ∃ es clock, W.heap[B + 5]? = some (.map es clock) ∧ StrKeys es.toList ∧ ∀ r, r < 2 → lookS es.toList (rS r) = (R r).map fun m => .map (some m)
  tmpl : ∃ es clock, W.heap[B + 6]? = some (.map es clock) ∧ StrKeys es.toList ∧ (lookS es.toList keep).isSome = true ∧ (∀ s, s < 8 → (lookS es.toList (tS s)).isSome = (rOf (S s) && decide (s ≠ ks))) ∧ Pl es.toList
  nmsN : ∀ r, r < 2 → R r = none → ∀ n, n < 4 → S (r * 4 + n) = none
  nms : ∀ r m, r < 2 → R r = some m → ∃ es clock, W.heap[m]? = some (.map es clock) ∧ StrKeys es.toList ∧ ∀ n, n < 4 → (lookS es.toList (nS n)).isSome = ((S (r * 4 + n)).isSome && decide (r * 4 + n ≠ ks)) ∧ ∀ v, lookS es.toList (nS n) = some v → ∃ g m c rn, v = entV g m c rn
theorem owns_below {W W' : World} {base n : Nat} {v : Value} {xs : List Value} (h : W.ownsRow base 55 8 v n xs) (hb : Below W.heap.size W W') : W'.ownsRow base 55 8 v n xs := by
  refine ⟨h.1, ?_⟩
  rcases h.2 with h0 | ⟨g', cap', cur, hv, a1, a2, a3⟩
  · exact .inl h0
  · exact .inr ⟨g', cap', cur, hv, a1, (hb.block g' (lt_heap a2)).trans a2, a3⟩
theorem Aft.kept {B ks base : Nat} {w0 W W' : World} {S : Nat → Option Slot} {R : Nat → Option Nat} {size bytes now : Int} {L : List Pend} {got : Value} {c : Int} (h : Aft B ks base w0 S R size bytes now L got c W) (hb : Below W.heap.size W W') : Aft B ks base w0 S R size bytes now L got c W' := by
  have lt : ∀ {b : Nat} {o : Obj}, W.heap[b]? = some o → W'.heap[b]? = some o := fun {b o} hb' => (hb.block b (lt_heap hb')).trans hb'
  have lB := lt_heap h.restr
  obtain ⟨es, cl, e1, e2⟩ := h.ent
  obtain ⟨es', cl', t1, t2⟩ := h.tmpl
  exact ⟨h.bel.trans (hb.mono (by omega)), lt h.restr, lt h.names, lt h.pres, lt h.model, lt h.rnps, h.cnt, owns_below h.own hb, lt h.t, ⟨es, cl, lt e1, e2⟩, ⟨es', cl', lt t1, t2⟩, h.nmsN, fun r m hr hm => by
    obtain ⟨es, cl, a1, a2⟩ := h.nms r m hr hm
    exact ⟨es, cl, lt a1, a2⟩⟩
theorem ent_form {s : Nat} {o : Option Slot} {v : Value} (h : o.map (entOf s) = some v) : ∃ g m c rn, v = entV g m c rn := by
  cases o with
  | none => cases h
  | some e => cases h; exact ⟨_, _, _, _, rfl⟩
theorem ba_eq (s : ByteArray) : (⟨s.data.toList.toArray⟩ : ByteArray) = s := rfl
theorem Tab.take {B ks : Nat} {w0 wo W : World} {S : Nat → Option Slot} {R : Nat → Option Nat} {size bytes now : Int} (h : Tab B w0 wo S R size bytes) (hks : ks < 8) (hb : Below wo.heap.size wo W) {L : List Pend} {v : Value} (hown : W.ownsRow wo.heap.size 55 8 v L.length (flat L)) (hL : L.length ≤ 1024) {br bn cr cn : Nat}
    (hr : Txt W br (rS (ks / 4)).data.toList) (hn : Txt W bn (nS (ks % 4)).data.toList) (lr : br < W.heap.size) (ln : bn < W.heap.size) :
    Calls Yba.prog 7 #[.pointer (some ⟨B + 7, 0, none⟩), v, .agg #[.slice (some ⟨br, 0, none⟩) (rS (ks / 4)).size cr, .slice (some ⟨bn, 0, none⟩) (nS (ks % 4)).size cn], .agg #[.int .u64 (now % 1000000000), .int .i64 (now / 1000000000), .pointer none]] W fun e w' => ∃ got c, e = .returned (.tuple #[got, .int .i64 c]) ∧ Aft B ks wo.heap.size w0 S R size bytes now L got c w' ∧ W.heap.size ≤ w'.heap.size := by
  have hT := h.kept hb
  have hb4 : ks / 4 < 2 := by omega
  have hm4 : ks % 4 < 4 := by omega
  have hks' : ks / 4 * 4 + ks % 4 = ks := by omega
  obtain ⟨esE, cE, e1, e2, e3⟩ := hT.ent
  have hwo : wo.heap.size ≤ W.heap.size := hb.size
  cases hS : S ks with
  | none =>
    have hcall := take_none (B + 7) (B + 5) br bn cr cn cE _ (rS (ks / 4)).data.toList (nS (ks % 4)).data.toList esE v ((lookS esE.toList (rS (ks / 4))).getD (.map none)) now W hT.t rfl e1 e2 hr hn lr ln rfl (by
      rw [e3 _ hb4]
      cases hR : R (ks / 4) with
      | none => exact .inl rfl
      | some m =>
        obtain ⟨_, ⟨es, cl, m1, m2, m3⟩⟩ := hT.nms (ks / 4) m hb4 hR
        refine .inr ⟨m, es, cl, rfl, m1, m2, ?_⟩
        have := m3 (ks % 4) hm4
        rw [hks', hS] at this
        exact this)
    refine hcall.mono ?_
    rintro _ w' ⟨rfl, hb'⟩
    refine ⟨v, 0, rfl, ?_, hb'.size⟩
    refine Aft.kept (W := W) ⟨hT.bel, hT.restr, hT.names, hT.pres, hT.model, hT.rnps, by simp [hS], ?_, ?_, hT.ent, ?_, hT.nmsN, ?_⟩ hb'
    · rw [hS]; simpa [psOf, live, flat] using hown
    · rw [hS]; simpa [psOf, bytesOf] using hT.t
    · obtain ⟨es, cl, t1, t2, t3, t4, t5⟩ := hT.tmpl
      have t4' : ∀ s, s < 8 → (lookS es.toList (tS s)).isSome = rOf (S s) := fun s hs => by rw [t4 s hs]; cases S s <;> rfl
      refine ⟨es, cl, t1, t2, t3, fun s hs => ?_, t5⟩
      rw [t4' s hs]
      by_cases e : s = ks
      · subst e; simp [hS, rOf]
      · simp [e]
    · intro r m hr' hm'
      obtain ⟨_, ⟨es, cl, m1, m2, m3⟩⟩ := hT.nms r m hr' hm'
      refine ⟨es, cl, m1, m2, fun n hn' => ⟨?_, fun v hv => ?_⟩⟩
      · rw [m3 n hn']
        by_cases e : r * 4 + n = ks
        · rw [e]; simp [hS]
        · simp [e]
      · rw [m3 n hn'] at hv
        exact ent_form hv
  | some e =>
    cases hR : R (ks / 4) with
    | none =>
      have := hT.nmsN (ks / 4) hb4 hR (ks % 4) hm4
      rw [hks', hS] at this
      cases this
    | some M =>
      obtain ⟨hM7, ⟨esM, cM, m1, m2, m3⟩⟩ := hT.nms (ks / 4) M hb4 hR
      obtain ⟨_, ⟨_, _, n1, _⟩⟩ := h.nms (ks / 4) M hb4 hR
      obtain ⟨es, cl, t1, t2, t3, t4, t5⟩ := hT.tmpl
      have t4' : ∀ s, s < 8 → (lookS es.toList (tS s)).isSome = rOf (S s) := fun s hs => by rw [t4 s hs]; cases S s <;> rfl
      obtain ⟨q1, q2, q3, q4, q5⟩ := hT.rows ks e hks hS
      obtain ⟨_, p2, _⟩ := h.rows ks e hks hS
      have hMT : M ≠ B + 6 := by omega
      have hlM : lookS esM.toList (nS (ks % 4)) = some (entV e.g e.ps.length e.n (rnpOf ks e)) := by
        have := m3 (ks % 4) hm4
        rw [hks', hS] at this
        rw [this, q4]
        rfl
      have hlE : lookS esE.toList (rS (ks / 4)) = some (.map (some M)) := by rw [e3 _ hb4, hR]; rfl
      have hcall := take_some (B + 7) (B + 5) (B + 6) M e.g e.n br bn cr cn cE cl cM wo.heap.size L.length 0 size 0 0 bytes now (rnpOf ks e) (rS (ks / 4)).data.toList (nS (ks % 4)).data.toList (flat L) e.ps es esE esM v W hT.t e1 e2 t1 t2 m1 m2 hMT hr hn lr ln hlE hlM q2 p2.lt (lt_heap n1) hwo hown (by omega)
      refine hcall.mono ?_
      rintro _ w' ⟨v', rfl, hK⟩
      refine ⟨v', 1, rfl, ?_, hK.kept.size⟩
      have lo7 := lt_heap h.t
      have lt : ∀ {b : Nat} {o : Obj}, W.heap[b]? = some o → b < wo.heap.size → b ≠ B + 7 → b ≠ B + 6 → b ≠ M → w'.heap[b]? = some o := fun {b o} hb1 h0 h1 h2 h3 => (hK.kept.block b (lt_heap hb1) (by omega)).trans hb1
      have hMo := lt_heap n1
      refine ⟨hT.bel.trans (hK.kept.below (by omega) (fun k hk x => by omega)), lt hT.restr (by omega) (by omega) (by omega) (by omega), lt hT.names (by omega) (by omega) (by omega) (by omega), lt hT.pres (by omega) (by omega) (by omega) (by omega), lt hT.model (by omega) (by omega) (by omega) (by omega), lt hT.rnps (by omega) (by omega) (by omega) (by omega), by simp [hS], ?_, ?_, ⟨esE, cE, lt e1 (by omega) (by omega) (by omega) (by omega), e2, e3⟩, ?_, hT.nmsN, ?_⟩
      · rw [hS]; exact hK.own
      · rw [hS]; simpa [psOf] using hK.t
      · obtain ⟨es', cl', a1, a2, a3⟩ := hK.map
        refine ⟨es', cl', a1, a2, ?_, fun s hs => ?_, fun k v hv => ?_⟩
        · rw [a3, if_neg ?_]; exact t3
          intro x
          have := x.2
          unfold rnpOf at this
          by_cases y : e.rnp = true
          · rw [if_pos y] at this; exact tS_keep this.symm
          · rw [if_neg y] at this; simp [keep] at this
        · rw [a3]
          by_cases x : s = ks
          · subst x
            by_cases y : e.rnp = true
            · have : rnpOf s e = tS s := by unfold rnpOf; rw [if_pos y]
              rw [this, if_pos ⟨tS_ne, rfl⟩]
              simp
            · have : rnpOf s e = ⟨#[]⟩ := by unfold rnpOf; rw [if_neg y]
              rw [this, if_neg (fun x => x.1 rfl), t4' s hs, hS]
              simp [rOf, y]
          · rw [if_neg ?_, t4' s hs]
            · simp [x]
            · intro z
              have z2 := z.2
              unfold rnpOf at z2
              by_cases y : e.rnp = true
              · rw [if_pos y] at z2; exact x (tS_inj hs hks z2)
              · rw [if_neg y] at z2; exact tS_ne z2
        · rw [a3] at hv
          by_cases x : rnpOf ks e ≠ ⟨#[]⟩ ∧ k = rnpOf ks e
          · rw [if_pos x] at hv; cases hv
          · rw [if_neg x] at hv; exact t5 k v hv
      · intro r m hr' hm'
        by_cases x : r = ks / 4
        · subst x
          rw [hR] at hm'
          cases hm'
          obtain ⟨es', cl', a1, a2, a3⟩ := hK.names
          refine ⟨es', cl', a1, a2, fun n hn' => ⟨?_, fun v hv => ?_⟩⟩
          · rw [a3]
            by_cases y : n = ks % 4
            · rw [if_pos (by rw [y]), y, hks']; simp
            · rw [if_neg (fun z => y (nS_inj hn' hm4 z)), m3 n hn']
              have : ¬ (ks / 4 * 4 + n = ks) := by omega
              simp [this]
          · rw [a3] at hv
            by_cases y : n = ks % 4
            · rw [if_pos (by rw [y])] at hv; cases hv
            · rw [if_neg (fun z => y (nS_inj hn' hm4 z)), m3 n hn'] at hv
              exact ent_form hv
        · obtain ⟨_, ⟨es', cl', a1, a2, a3⟩⟩ := hT.nms r m hr' hm'
          obtain ⟨a0, ⟨_, _, b1, _⟩⟩ := h.nms r m hr' hm'
          have hmM : m ≠ M := by
            intro y
            subst y
            have h0 : r = 0 ∨ r = 1 := by omega
            have h1 : ks / 4 = 0 ∨ ks / 4 = 1 := by omega
            rcases h0 with rfl | rfl <;> rcases h1 with h1 | h1
            · omega
            · rw [h1] at hR; exact h.inj m hm' hR
            · rw [h1] at hR; exact h.inj m hR hm'
            · omega
          refine ⟨es', cl', lt a1 (lt_heap b1) (by omega) (by omega) hmM, a2, fun n hn' => ⟨?_, fun v hv => ?_⟩⟩
          · rw [a3 n hn']
            have : ¬ (r * 4 + n = ks) := by omega
            simp [this]
          · rw [a3 n hn'] at hv
            exact ent_form hv
theorem txt_new {W : World} {b k : Nat} {s : ByteArray} {f : Nat × Nat} (hb : b = W.heap.size) : Txt (W.alloc (.cells (bytesRow s k) 5 f)) b s.data.toList := by
  subst hb
  intro j hj
  have h1 : (W.alloc (.cells (bytesRow s k) 5 f)).heap[W.heap.size]? = some (.cells (bytesRow s k) 5 f) := by
    show (W.heap.push _)[W.heap.size]? = _
    simp
  have hj' : j < s.data.size := by simpa using hj
  have h2 : (W.alloc (.cells (bytesRow s k) 5 f)).cell? ⟨W.heap.size, j, none⟩ = (bytesRow s k)[j]? := by
    unfold World.cell?
    rw [h1]
    rfl
  rw [h2, bytesRow_at s k j hj']
  simp
theorem txt_alloc {W : World} {b : Nat} {s : List UInt8} {o : Obj} (h : Txt W b s) (hb : b < W.heap.size) : Txt (W.alloc o) b s := fun j hj => by
  rw [World.cell?_of_block (Below.heap_alloc _ _ _ hb)]
  exact h j hj
theorem txt_drew {W : World} {b : Nat} {s : List UInt8} (h : Txt W b s) : Txt W.drew b s := h
end Go.Proofs.Ybulkcfbe.tab
