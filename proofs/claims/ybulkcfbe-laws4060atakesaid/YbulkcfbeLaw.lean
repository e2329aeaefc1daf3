/- LawS4060ATake: the table is built; the rest by the parts. -/
import Derived.Test.YbulkcfbePrefix
namespace Go.Proofs.Ybulkcfbe.tab
open Go.ChangeShapes Go.WideShapes Go.ChangeAt Go.RowKit
open Go.Proofs.Ybulkcfbe.tm Go.Proofs.Ybulkcfbe.sm Go.Proofs.Ybulkcfbe.pd Go.Proofs.Ybulkcfbe.inv
open Go.ChangeMaps (setBlock)
set_option linter.unusedVariables false
set_option maxRecDepth 100000 in
set_option maxHeartbeats 6400000 in
theorem walk_core (a0 a3 : Option Addr) (n0 c0 n3 c3 kr kn : Nat) (now size bytes : Int) (ds : List Dt) (pre : List Wt) (w : World) (hn0 : n0 ≤ 1024) (hn3 : n3 ≤ 1024) (hk : kr ≤ 255) (hk' : kn ≤ 255) (hnow : -2147483648 ≤ now ∧ now ≤ 2147483647) (hE : ReadsE w a0 n0 ds) (hP : ReadsW w a3 n3 pre) :
    Calls Yba.prog 3 #[.slice a0 n0 c0, .int .u8 kr, .int .u8 kn, .slice a3 n3 c3, .int .i32 now, .int .i64 size, .int .i64 bytes] w fun e w' => e = .returned (.bool true) ∧ Below w.heap.size w w' := by
  have HE : Hid (ReadsE w a0 n0 ds) := hE
  have HP : Hid (ReadsW w a3 n3 pre) := hP
  clear hE hP
  obtain ⟨i0, hi, hz0, hz1, hz2⟩ := info_of info55
  go_enter Yba.func3, Yba.ntmps3
  go_wp2_with fail
  go_loopw [63] (fun i wr => ∃ k : Nat, k ≤ n0 ∧ i = .int .i64 k ∧ wr = w ∧ ∀ j d, j < k → ds[j]? = some d → d.len ≤ 1024) (fun i _ => n0 - (intOf i).toNat)
  case atStart => exact ⟨0, by omega, rfl, rfl, fun j d hj => absurd hj (Nat.not_lt_zero _)⟩
  case round =>
    obtain ⟨k, hk0, rfl, hw, hall⟩ := hrel
    obtain rfl := hw.symm
    clear hw
    have HALL : Hid (∀ j d, j < k → ds[j]? = some d → d.len ≤ 1024) := hall
    clear hall
    by_cases hlt : k < n0
    · obtain ⟨d, hd⟩ : ∃ d, ds[k]? = some d := ⟨_, List.getElem?_eq_getElem (by rw [HE.out.len]; exact hlt)⟩
      obtain ⟨b, o, rfl, lb, -, -, -, c3, -, -, -⟩ := HE.out.at_ k d hd
      have HD : Hid (ds[k]? = some d) := hd
      clear hd
      by_cases hb : d.len ≤ 1024
      · have hb' : (d.len : Int) ≤ 1024 := by omega
        go_wp2
        go_roundw
        case rel => exact ⟨k + 1, by omega, by go_num, trivial, fun j d' hj hd' => by
          by_cases x : j = k
          · subst x; rw [HD.out] at hd'; cases hd'; exact hb
          · exact HALL.out j d' (by omega) hd'⟩
        case measure => simp [intOf]; omega
      · have hb' : ¬ (d.len : Int) ≤ 1024 := by omega
        go_wp2
        go_ret
        exact ⟨rfl, Below.refl _ _⟩
    · have HKN : Hid (k = n0) := by show _ = _; omega
      have hnlt : ¬ (k : Int) < (n0 : Int) := by omega
      have hmm : ∀ (t : TypeId) (w : World), (Instr.makeMap t none).run Yba.prog w = .ok (.map (some w.heap.size)) (w.alloc (.map #[] 0)) := fun t w => run_makeMap t w
      obtain ⟨W7, hW7⟩ : ∃ W7, W7 = ((((((w.alloc (.cells #[.string ⟨#[0]⟩, .string ⟨#[1]⟩] 26)).alloc (.cells #[.string ⟨#[]⟩, .string ⟨#[97]⟩, .string ⟨#[98]⟩, .string ⟨#[97, 98]⟩] 27)).alloc (.cells #[.bool false, .bool false, .bool false, .bool false, .bool false, .bool false, .bool false, .bool false] 28)).alloc (.cells #[.slice none 0 0, .slice none 0 0, .slice none 0 0, .slice none 0 0, .slice none 0 0, .slice none 0 0, .slice none 0 0, .slice none 0 0] 29)).alloc (.cells #[.bool false, .bool false, .bool false, .bool false, .bool false, .bool false, .bool false, .bool false] 28)).alloc (.map #[] 0)).alloc (.map #[] 0) := ⟨_, rfl⟩
      have h6 : W7.heap[w.heap.size + 1 + 1 + 1 + 1 + 1 + 1]? = some (.map #[] 0) := by
        rw [hW7]
        show (Array.push _ _)[_]? = _
        rw [Array.getElem?_push, if_pos (by simp)]
      obtain ⟨es1, cl1, hins, g1, g2, -⟩ := run_update (P := Yba.prog) (w := W7) (m := w.heap.size + 1 + 1 + 1 + 1 + 1 + 1) (t := 33) Yba.underlying9 Yba.underlying33 h6 StrKeys.nil keep (.agg #[.string ⟨#[122]⟩, .string ⟨#[122]⟩])
      obtain ⟨W8, hW8⟩ : ∃ W8, W8 = setBlock W7 (w.heap.size + 1 + 1 + 1 + 1 + 1 + 1) (.map es1 cl1) := ⟨_, rfl⟩
      rw [← hW8] at hins
      have HW : Hid (W8 = setBlock W7 (w.heap.size + 1 + 1 + 1 + 1 + 1 + 1) (.map es1 cl1) ∧ W7 = ((((((w.alloc (.cells #[.string ⟨#[0]⟩, .string ⟨#[1]⟩] 26)).alloc (.cells #[.string ⟨#[]⟩, .string ⟨#[97]⟩, .string ⟨#[98]⟩, .string ⟨#[97, 98]⟩] 27)).alloc (.cells #[.bool false, .bool false, .bool false, .bool false, .bool false, .bool false, .bool false, .bool false] 28)).alloc (.cells #[.slice none 0 0, .slice none 0 0, .slice none 0 0, .slice none 0 0, .slice none 0 0, .slice none 0 0, .slice none 0 0, .slice none 0 0] 29)).alloc (.cells #[.bool false, .bool false, .bool false, .bool false, .bool false, .bool false, .bool false, .bool false] 28)).alloc (.map #[] 0)).alloc (.map #[] 0)) := ⟨hW8, hW7⟩
      have HG : Hid (StrKeys es1.toList ∧ ∀ k, lookS es1.toList k = if k = keep then some (.agg #[.string ⟨#[122]⟩, .string ⟨#[122]⟩]) else lookS (#[] : Array MapEntry).toList k) := ⟨g1, g2⟩
      rw [hW7] at hins
      simp only [keep] at hins
      clear h6 g1 g2 hW7 hW8
      have HT0 : Hid (Tab w.heap.size w (W8.alloc (.cells (pitC (w.heap.size + 5) (w.heap.size + 6) 0 size 0 0 bytes) 39)) (fun _ => none) (fun _ => none) size bytes) := by
        have := Tab.start w (.map #[] 0) es1 cl1 (.agg #[.string ⟨#[122]⟩, .string ⟨#[122]⟩]) size bytes HG.out.1 (fun k => by rw [HG.out.2]; rfl) ⟨_, _, rfl⟩
        rw [HW.out.1, HW.out.2]
        exact this
      have hs8 : W8.heap.size = w.heap.size + 7 := by
        rw [HW.out.1, HW.out.2]
        show (Array.setIfInBounds _ _ _).size = _
        simp
      clear HW HG
      go_wp2_with fail
      clear hins hmm hnlt hlt hk0
      simp only [Nat.add_assoc, Nat.reduceAdd]
      clear hs8
      go_loopw [85] (fun i wq => ∃ (k : Nat) (S : Nat → Option Slot) (R : Nat → Option Nat), k ≤ n0 ∧ i = .int .i64 k ∧ Tab w.heap.size w wq S R size bytes ∧ ∀ s e, s < 8 → S s = some e → ReadsW w e.a e.n e.ws) (fun i _ => n0 - (intOf i).toNat)
      case atStart => exact ⟨0, fun _ => none, fun _ => none, by omega, rfl, HT0.out, fun s e _ h => by cases h⟩
      case round =>
        obtain ⟨wo, hwo⟩ : ∃ wo, wo = wr := ⟨_, rfl⟩
        subst hwo
        obtain ⟨q, S, R, hq, rfl, hT, hRW⟩ := hrel
        have HT : Hid (Tab w.heap.size w wo S R size bytes) := hT
        have HRW : Hid (∀ s e, s < 8 → S s = some e → ReadsW w e.a e.n e.ws) := hRW
        clear hT hRW
        by_cases hlt : q < n0
        · obtain ⟨d, hd⟩ : ∃ d, ds[q]? = some d := ⟨_, List.getElem?_eq_getElem (by rw [HE.out.len]; exact hlt)⟩
          obtain ⟨b, o, rfl, lb, x0, x1, x2, x3, hr, hn, hW⟩ := HE.out.at_ q d hd
          have hlen : d.len ≤ 1024 := HALL.out q d (by rw [HKN.out]; exact hlt) hd
          have bel := HT.out.bel
          have y0 := (bel.cell (p := ⟨b, o + q * 4, none⟩) lb).trans x0
          have y1 := (bel.cell (p := ⟨b, o + q * 4 + 1, none⟩) lb).trans x1
          have y2 := (bel.cell (p := ⟨b, o + q * 4 + 2, none⟩) lb).trans x2
          have y3 := (bel.cell (p := ⟨b, o + q * 4 + 3, none⟩) lb).trans x3
          have HWd : Hid (ReadsW w d.a d.len d.ws) := hW
          have lbr : b < wo.heap.size := by have := bel.size; omega
          clear x0 x1 x2 x3 bel hW hd
          go_upto_region 19 with fail
          have es : ((d.r : Int) % 2 * 4 + (d.n : Int) % 4) = ((d.r % 2 * 4 + d.n % 4 : Nat) : Int) := by omega
          rw [es]
          have hs : d.r % 2 * 4 + d.n % 4 < 8 := by omega
          clear es
          generalize d.r % 2 * 4 + d.n % 4 = s at hs ⊢
          cases hS : S s with
          | some e =>
            have z : wo.cell? ⟨w.heap.size + 2, s, none⟩ = some (.bool true) := by
              simp [World.cell?, HT.out.pres, presA, hs, hS]
            have lz := lt_heap HT.out.pres
            have hsi : (s : Int) < 8 := by omega
            have HT1 : Hid (∀ o, Tab w.heap.size w (wo.alloc o) S R size bytes) := fun o => HT.out.kept ((Below.refl _ _).alloc (Nat.le_refl _) o)
            clear hS
            go_wp2
            go_roundw
            case rel => exact ⟨q + 1, S, R, by omega, by go_num, HT1.out _, HRW.out⟩
            case measure => simp [intOf]; omega
          | none =>
            have z2 : wo.cell? ⟨w.heap.size + 2, s, none⟩ = some (.bool false) := by
              simp [World.cell?, HT.out.pres, presA, hs, hS]
            have f2 : wo.frozen? ⟨w.heap.size + 2, s, none⟩ = false := by simp [World.frozen?, HT.out.pres]
            have f3 : wo.frozen? ⟨w.heap.size + 3, s, none⟩ = false := by simp [World.frozen?, HT.out.model]
            have f4 : wo.frozen? ⟨w.heap.size + 4, s, none⟩ = false := by simp [World.frozen?, HT.out.rnps]
            have z3 : wo.cell? ⟨w.heap.size + 3, s, none⟩ = some (.slice none 0 0) := by
              simp [World.cell?, HT.out.model, modelA, hs, hS]
            have z4 : wo.cell? ⟨w.heap.size + 4, s, none⟩ = some (.bool false) := by
              simp [World.cell?, HT.out.rnps, rnpsA, hs, hS]
            have l2 := lt_heap HT.out.pres
            have l3 := lt_heap HT.out.model
            have l4 := lt_heap HT.out.rnps
            have hsi : (s : Int) < 8 := by omega
            have HSN : Hid (S s = none) := hS
            clear hS
            go_upto_region 23 with fail
            have hM := HT.out.mark (s := s) d
            generalize hWa : ((((wo.setCell ⟨w.heap.size + 2, s, none⟩ (.bool true)).setCell ⟨w.heap.size + 3, s, none⟩ (.slice d.a d.len d.c)).setCell ⟨w.heap.size + 4, s, none⟩ (.bool d.rnp)).alloc (.cells #[.int .u8 d.r, .int .u8 d.n, .bool d.rnp, .slice d.a d.len d.c] 25)) = Wa at hM ⊢
            clear hWa z2 z3 z4 f2 f3 f4 l2 l3 l4 y0 y1 y2 y3 lbr
            have HM : Hid (Marked w.heap.size s S d wo Wa) := hM
            have c3 : Wa.cell? ⟨wo.heap.size, 3, none⟩ = some (.slice d.a d.len d.c) := by simp [World.cell?, hM.box]
            have lx := lt_heap hM.box
            have HB0 : Hid (Below w.heap.size w Wa) := HT.out.bel.trans (hM.kept.below (Nat.le_trans HT.out.bel.size (Nat.le_refl _)) (fun k hk x => by omega))
            clear hM
            go_upto_region 24 with (at_make; go_must (refine wpList_make_own _ rfl _ _ 40 rfl Wa.heap.size 55 i0 _ 8 Yba.underlying40 hi hz0 hz1 .i64 .i64 d.len d.len rfl rfl rfl (by rw [hz2]; omega) (by unfold maxLen; omega) (Nat.le_refl _) ?_); intro Wb own0 gr0)
            have HF0 : Hid (Fill Wa d.len 0 [] Wb) := Fill.start own0 gr0
            have c3b : Wb.cell? ⟨wo.heap.size, 3, none⟩ = some (.slice d.a d.len d.c) := gr0.cell c3 (by simp)
            have lxb : wo.heap.size < Wb.heap.size := Nat.lt_of_lt_of_le lx gr0.size
            clear own0 gr0 c3
            go_wp2_with fail
            clear c3b
            go_loopw [25, 119] (fun v i wq => ∃ (j : Nat) (L : List Pend), j ≤ d.len ∧ i = .int .i64 j ∧ v = .slice (some ⟨Wa.heap.size, 0, none⟩) j d.len ∧ L.map wtOf = d.ws.take j ∧ Fill Wa d.len j L wq) (fun v i _ => d.len - (intOf i).toNat)
            case atStart => exact ⟨0, [], by omega, rfl, rfl, by simp, HF0.out⟩
            case round =>
              obtain ⟨j, L, hj, rfl, rfl, hL, hF⟩ := hrel
              have HL : Hid (L.map wtOf = d.ws.take j) := hL
              have HF : Hid (Fill Wa d.len j L wr) := hF
              clear hL hF
              by_cases hjl : j < d.len
              · obtain ⟨q', hq'⟩ : ∃ q', d.ws[j]? = some q' := ⟨_, List.getElem?_eq_getElem (by rw [HWd.out.len]; exact hjl)⟩
                have HQ : Hid (d.ws[j]? = some q') := hq'
                have HBw : Hid (Below w.heap.size w wr) := HB0.out.trans (HF.out.bel.mono HB0.out.size)
                obtain ⟨b', o', ea, lb', x0, x1, x2, hx, hl⟩ := HWd.out.at_ j q' hq'
                have y0 := (HBw.out.cell (p := ⟨b', o' + j * 3, none⟩) lb').trans x0
                have y1 := (HBw.out.cell (p := ⟨b', o' + j * 3 + 1, none⟩) lb').trans x1
                have y2 := (HBw.out.cell (p := ⟨b', o' + j * 3 + 2, none⟩) lb').trans x2
                have lbr' : b' < wr.heap.size := Nat.lt_of_lt_of_le lb' HBw.out.size
                rw [ea]
                clear x0 x1 x2 hq'
                go_wp2_with fail
                refine (apend q'.p q'.x q'.l _ hx hl).mono ?_
                rintro _ w2 ⟨g, rfl, hb2⟩
                have HF2 : Hid (Fill Wa d.len j L w2) := HF.out.kept (((Below.refl _ _).alloc (Nat.le_refl _) _).trans (hb2.mono (by simp)))
                clear hb2
                go_wp2_with (at_builtin; go_must (refine wpList_append_own_spare _ rfl _ _ 40 rfl Wa.heap.size 55 i0 8 Yba.underlying40 hi hz1 Wa.heap.size j d.len (flat L) rfl (HF2.out.own.alloc _) ⟨w2.heap.size, 0, none⟩ 1 1 (Pend.cells ⟨q'.p, q'.x, q'.l, g⟩) rfl rfl (fun j u h => new_cell w2 _ 55 j u h) (fun u hu => flat_oneCell [⟨q'.p, q'.x, q'.l, g⟩] u (by simpa [flat] using hu)) (by omega) ?_); intro W3 hown3 hgr3)
                have HF3 : Hid (Fill Wa d.len (j + 1) (L ++ [⟨q'.p, q'.x, q'.l, g⟩]) W3) := HF2.out.next hown3 hgr3
                have HL3 : Hid ((L ++ [(⟨q'.p, q'.x, q'.l, g⟩ : Pend)]).map wtOf = d.ws.take (j + 1)) := take_snoc_map HL.out HQ.out
                clear hown3 hgr3
                go_roundw
                case rel => exact ⟨j + 1, _, by omega, by go_num, rfl, HL3.out, HF3.out⟩
                case measure => simp [intOf]; omega
              · obtain rfl : j = d.len := by omega
                have hMq := HM.out.below HF.out.bel
                have HMq : Hid (Marked w.heap.size s S d wo wr) := hMq
                have kR := (hMq.kept.block _ (lt_heap HT.out.restr) (by omega)).trans HT.out.restr
                have kN := (hMq.kept.block _ (lt_heap HT.out.names) (by omega)).trans HT.out.names
                have cR : wr.cell? ⟨w.heap.size, s / 4, none⟩ = some (.string (rS (s / 4))) := by
                  have : s / 4 = 0 ∨ s / 4 = 1 := by omega
                  rcases this with e | e <;> simp [World.cell?, kR, e]
                have cN : wr.cell? ⟨w.heap.size + 1, s % 4, none⟩ = some (.string (nS (s % 4))) := by
                  have : s % 4 = 0 ∨ s % 4 = 1 ∨ s % 4 = 2 ∨ s % 4 = 3 := by omega
                  rcases this with e | e | e | e <;> simp [World.cell?, kN, e]
                have lR := lt_heap kR
                have lN := lt_heap kN
                have cX2 : wr.cell? ⟨wo.heap.size, 2, none⟩ = some (.bool d.rnp) := by simp [World.cell?, hMq.box]
                have lX := lt_heap hMq.box
                have HLd : Hid (L.map wtOf = d.ws) := by
                  have := HL.out
                  rw [← HWd.out.len, List.take_length] at this
                  exact this
                have HLl : Hid (L.length = d.len) := by
                  have := congrArg List.length HLd.out
                  rw [List.length_map, HWd.out.len] at this
                  exact this
                have HRow : Hid (Row wr Wa.heap.size L) := HF.out.row
                have lW : Wa.heap.size < wr.heap.size := HF.out.lt
                have d4 : (s : Int).tdiv 4 = ((s / 4 : Nat) : Int) := by rw [Int.tdiv_eq_ediv_of_nonneg (by omega)]; omega
                have m4 : (s : Int).tmod 4 = ((s % 4 : Nat) : Int) := by rw [Int.tmod_eq_emod_of_nonneg (by omega)]; omega
                have hb4 : s / 4 < 2 := by omega
                have hm4 : s % 4 < 4 := by omega
                have HH : Hid (∀ nq, Half w.heap.size s S d Wa.heap.size wr.heap.size L ⟨#[]⟩ false wo ((wr.alloc (.cells #[.slice (some ⟨Wa.heap.size, 0, none⟩) d.len d.len, .int .u8 0, .slice none 0 0, .string ⟨#[]⟩] 59)).drewN nq)) := fun nq => Half.start HT.out HSN.out HMq.out HRow.out lx
                clear hMq kR kN
                go_upto_region 30 with fail
                go_quiet (fail)
                have HH1 := HH.out nq
                generalize hW1 : (wr.alloc (.cells #[.slice (some ⟨Wa.heap.size, 0, none⟩) d.len d.len, .int .u8 0, .slice none 0 0, .string ⟨#[]⟩] 59)).drewN nq = W1 at HH1 ⊢
                have HH2 : Hid (Half w.heap.size s S d Wa.heap.size wr.heap.size L ⟨#[]⟩ false wo W1) := HH1
                have cX2' : W1.cell? ⟨wo.heap.size, 2, none⟩ = some (.bool d.rnp) := by
                  rw [← hW1]
                  show (wr.alloc _).cell? _ = _
                  rw [World.cell?_of_block (Below.heap_alloc _ _ _ lX)]
                  exact cX2
                have lX1 : wo.heap.size < W1.heap.size := by rw [← hW1]; show _ < (wr.heap.push _).size; simp; omega
                clear hW1 HH1 HH cR cN lR lN cX2
                go_upto_if 140 with fail
                go_cut [] (fun wc => Half w.heap.size s S d Wa.heap.size wr.heap.size L (if d.rnp = true then tS s else ⟨#[]⟩) d.rnp wo wc)
                case first =>
                  by_cases hrn : d.rnp = true
                  · rw [hrn]
                    go_wp2_with fail
                    refine (arnp s hs _).mono ?_
                    rintro _ w2 ⟨rfl, o1, rfl⟩
                    have hH3 := HH2.out.below ((Below.refl _ W1).alloc (Nat.le_refl _) o1)
                    generalize W1.alloc o1 = W2 at hH3 ⊢
                    have b3 : W2.cell? ⟨wr.heap.size, 3, none⟩ = some (.string ⟨#[]⟩) := by simp [World.cell?, hH3.box]
                    have fz : W2.frozen? ⟨wr.heap.size, 3, none⟩ = false := by simp [World.frozen?, hH3.box]
                    have lb3 := lt_heap hH3.box
                    have l7 := lt_heap HT.out.t
                    have t7 := (hH3.kept.block _ l7 (by omega)).trans HT.out.t
                    have t2 : W2.cell? ⟨w.heap.size + 7, 2, none⟩ = some (.map (some (w.heap.size + 6))) := by simp [World.cell?, t7, pitC]
                    have l72 := lt_heap t7
                    have ne : wr.heap.size ≠ w.heap.size + 7 := by omega
                    have ne6 : w.heap.size + 6 ≠ wr.heap.size := by omega
                    obtain ⟨es, clock, a1, a2, a3⟩ := hH3.tmpl
                    have a1' : (W2.setCell ⟨wr.heap.size, 3, none⟩ (.string (tS s))).heap[w.heap.size + 6]? = some (.map es clock) := by
                      rw [Below.heap_setCell _ _ _ _ ne6]; exact a1
                    obtain ⟨es', clock', hup, g1, g2, -⟩ := run_update (P := Yba.prog) (t := 33) Yba.underlying9 Yba.underlying33 a1' a2 (tS s) (.agg #[.string (rS (s / 4)), .string (nS (s % 4))])
                    have HG : Hid (Half w.heap.size s S d Wa.heap.size wr.heap.size L (if d.rnp = true then tS s else ⟨#[]⟩) d.rnp wo (setBlock (W2.setCell ⟨wr.heap.size, 3, none⟩ (.string (tS s))) (w.heap.size + 6) (.map es' clock'))) := by
                      rw [if_pos hrn, hrn]
                      exact hH3.lay l7 (fun es2 c2 h2 => by rw [a1] at h2; cases h2; exact ⟨g1, g2⟩) hs ⟨_, _, rfl⟩
                    clear hH3 t7 a1 a2 a3 a1' g1 g2
                    go_wp2_with fail
                    go_meet
                    exact HG.out
                  · have hrf : d.rnp = false := by simpa using hrn
                    have HG : Hid (Half w.heap.size s S d Wa.heap.size wr.heap.size L (if d.rnp = true then tS s else ⟨#[]⟩) d.rnp wo W1) := by
                      rw [if_neg hrn, hrf]
                      exact HH2.out
                    rw [hrf]
                    go_wp2_with fail
                    go_meet
                    exact HG.out
                case rest =>
                  have HC : Hid (Half w.heap.size s S d Wa.heap.size wr.heap.size L (if d.rnp = true then tS s else ⟨#[]⟩) d.rnp wo wc) := hcut
                  have l7 := lt_heap HT.out.t
                  have t7 := (hcut.kept.block _ l7 (by omega)).trans HT.out.t
                  have t0 : wc.cell? ⟨w.heap.size + 7, 0, none⟩ = some (.map (some (w.heap.size + 5))) := by simp [World.cell?, t7, pitC]
                  have l70 := lt_heap t7
                  obtain ⟨esE, cE, e1, e2, e3⟩ := HT.out.ent
                  have e1' := (hcut.kept.block _ (lt_heap e1) (by omega)).trans e1
                  have z0 : wc.cell? ⟨wr.heap.size, 0, none⟩ = some (.slice (some ⟨Wa.heap.size, 0, none⟩) d.len d.len) := by simp [World.cell?, hcut.box]
                  have z1 : wc.cell? ⟨wr.heap.size, 1, none⟩ = some (.int .u8 0) := by simp [World.cell?, hcut.box]
                  have z2 : wc.cell? ⟨wr.heap.size, 2, none⟩ = some (.slice none 0 0) := by simp [World.cell?, hcut.box]
                  obtain ⟨rn, hrn⟩ : ∃ rn, rn = (if d.rnp = true then tS s else (⟨#[]⟩ : ByteArray)) := ⟨_, rfl⟩
                  have z3 : wc.cell? ⟨wr.heap.size, 3, none⟩ = some (.string rn) := by rw [hrn]; simp [World.cell?, hcut.box]
                  have lz := lt_heap hcut.box
                  have HRn : Hid (rn = (if d.rnp = true then tS s else (⟨#[]⟩ : ByteArray))) := hrn
                  have hlk := run_lookup (P := Yba.prog) (w := wc) (m := w.heap.size + 5) (clock := cE) Yba.underlying9 Yba.underlying30 (zero61 _) e1' e2 (rS (s / 4)) false
                  rw [e3 _ hb4] at hlk
                  simp only [Bool.false_eq_true, if_false] at hlk
                  have HEn : Hid (wc.heap[w.heap.size + 5]? = some (.map esE cE) ∧ StrKeys esE.toList ∧ ∀ r, r < 2 → lookS esE.toList (rS r) = (R r).map fun m => .map (some m)) := ⟨e1', e2, e3⟩
                  clear t7 e1 e1' e2 e3 hcut hrn
                  have HC2 : Hid (Half w.heap.size s S d Wa.heap.size wr.heap.size L rn d.rnp wo wc) := by rw [HRn.out]; exact HC.out
                  cases hR : R (s / 4) with
                  | some M =>
                    rw [hR] at hlk
                    simp only [Option.map_some, Option.getD_some] at hlk
                    obtain ⟨hM7, ⟨esM, cM, m1, m2, m3⟩⟩ := HT.out.nms (s / 4) M hb4 hR
                    have m1' := (HC.out.kept.block _ (lt_heap m1) (by omega)).trans m1
                    obtain ⟨esM', cM', hup, g1, g2, -⟩ := run_update (P := Yba.prog) (t := 61) Yba.underlying9 Yba.underlying61 m1' m2 (nS (s % 4)) (.agg #[.slice (some ⟨Wa.heap.size, 0, none⟩) d.len d.len, .int .u8 0, .slice none 0 0, .string rn])
                    have HT2 : Hid (Tab w.heap.size w (setBlock wc M (.map esM' cM')) (upd S s (slotOf d Wa.heap.size L)) (fun r => if r = s / 4 then some M else R r) size bytes) := by
                      refine Half.done HT.out HC2.out hs HLd.out HLl.out hlen HRn.out (.inl hR) ((Kept.refl _ wc).setBlock (.inl (.inr rfl)) _) ⟨esE, cE, ?_, HEn.out.2.1, fun r hr => ?_⟩ ⟨esM', cM', ?_, g1, fun n hn => ?_⟩
                      · rw [setBlock_block, if_neg (by omega)]; exact HEn.out.1
                      · rw [HEn.out.2.2 r hr]
                        by_cases e : r = s / 4
                        · rw [if_pos e, e, hR]; rfl
                        · rw [if_neg e]
                      · rw [setBlock_block, if_pos rfl, if_pos (lt_heap m1')]
                      · rw [g2]
                        by_cases e : n = s % 4
                        · rw [if_pos (by rw [e]), if_pos e]; rfl
                        · rw [if_neg (fun x => e (nS_inj hn hm4 x)), if_neg e]; exact m3 n hn
                    have HRW2 : Hid (∀ s' e, s' < 8 → upd S s (slotOf d Wa.heap.size L) s' = some e → ReadsW w e.a e.n e.ws) := fun s' e hs' he => by
                      unfold upd at he
                      by_cases x : s' = s
                      · rw [if_pos x] at he; cases he; exact HWd.out
                      · rw [if_neg x] at he; exact HRW.out s' e hs' he
                    have he := eqlSome M
                    clear m1 m2 m3 m1' g1 g2
                    go_wp2
                    go_roundw
                    case rel => exact ⟨q + 1, _, _, by omega, by go_num, HT2.out, HRW2.out⟩
                    case measure => simp [intOf]; omega
                  | none =>
                    rw [hR] at hlk
                    simp only [Option.map_none, Option.getD_none] at hlk
                    have hmm : ∀ (t : TypeId) (w : World), (Instr.makeMap t none).run Yba.prog w = .ok (.map (some w.heap.size)) (w.alloc (.map #[] 0)) := fun t w => run_makeMap t w
                    have e1 : (wc.alloc (.map #[] 0)).heap[w.heap.size + 5]? = some (.map esE cE) := by rw [Below.heap_alloc _ _ _ (lt_heap HEn.out.1)]; exact HEn.out.1
                    obtain ⟨esE', cE', hup1, k1, k2, -⟩ := run_update (P := Yba.prog) (t := 30) Yba.underlying9 Yba.underlying30 e1 HEn.out.2.1 (rS (s / 4)) (.map (some wc.heap.size))
                    obtain ⟨Wd, hWd⟩ : ∃ Wd, Wd = setBlock (wc.alloc (.map #[] 0)) (w.heap.size + 5) (.map esE' cE') := ⟨_, rfl⟩
                    have sd : Wd.heap.size = wc.heap.size + 1 := by rw [hWd]; show (Array.setIfInBounds _ _ _).size = _; simp
                    have n5 : w.heap.size + 5 ≠ wc.heap.size := by have := lt_heap HEn.out.1; omega
                    have m1 : Wd.heap[wc.heap.size]? = some (.map #[] 0) := by
                      rw [hWd, setBlock_block, if_neg n5]
                      show (wc.heap.push _)[wc.heap.size]? = _
                      simp
                    have m5 : Wd.heap[w.heap.size + 5]? = some (.map esE' cE') := by
                      rw [hWd, setBlock_block, if_pos rfl, if_pos (lt_heap e1)]
                    obtain ⟨esM', cM', hup, g1, g2, -⟩ := run_update (P := Yba.prog) (t := 61) Yba.underlying9 Yba.underlying61 m1 StrKeys.nil (nS (s % 4)) (.agg #[.slice (some ⟨Wa.heap.size, 0, none⟩) d.len d.len, .int .u8 0, .slice none 0 0, .string rn])
                    have HT2 : Hid (Tab w.heap.size w (setBlock Wd wc.heap.size (.map esM' cM')) (upd S s (slotOf d Wa.heap.size L)) (fun r => if r = s / 4 then some wc.heap.size else R r) size bytes) := by
                      refine Half.done HT.out HC2.out hs HLd.out HLl.out hlen HRn.out (.inr ⟨hR, Nat.le_refl _⟩) ?_ ⟨esE', cE', ?_, k1, fun r hr => ?_⟩ ⟨esM', cM', ?_, g1, fun n hn => ?_⟩
                      · rw [hWd]; exact (((Kept.refl (fun k => k = w.heap.size + 5 ∨ k = wc.heap.size) wc).alloc _).setBlock (.inl (.inl rfl)) _).setBlock (.inl (.inr rfl)) _
                      · rw [setBlock_block, if_neg (fun x => n5 x.symm)]; exact m5
                      · rw [k2]
                        by_cases e : r = s / 4
                        · rw [if_pos (by rw [e]), if_pos e]
                        · rw [if_neg (fun x => e (rS_inj hr hb4 x)), if_neg e]; exact HEn.out.2.2 r hr
                      · rw [setBlock_block, if_pos rfl, if_pos (lt_heap m1)]
                      · rw [g2]
                        by_cases e : n = s % 4
                        · rw [if_pos (by rw [e]), if_pos e]; rfl
                        · rw [if_neg (fun x => e (nS_inj hn hm4 x)), if_neg e, HT.out.nmsN (s / 4) hb4 hR n hn]; rfl
                    have HRW2 : Hid (∀ s' e, s' < 8 → upd S s (slotOf d Wa.heap.size L) s' = some e → ReadsW w e.a e.n e.ws) := fun s' e hs' he => by
                      unfold upd at he
                      by_cases x : s' = s
                      · rw [if_pos x] at he; cases he; exact HWd.out
                      · rw [if_neg x] at he; exact HRW.out s' e hs' he
                    have he := eqlNil
                    have nX : w.heap.size + 5 ≠ wr.heap.size := by omega
                    have cd : ∀ o, Wd.cell? ⟨wr.heap.size, o, none⟩ = wc.cell? ⟨wr.heap.size, o, none⟩ := fun o => World.cell?_of_block (by rw [hWd, setBlock_block, if_neg nX]; exact Below.heap_alloc _ _ _ lz)
                    have z0' := (cd 0).trans z0
                    have z1' := (cd 1).trans z1
                    have z2' := (cd 2).trans z2
                    have z3' := (cd 3).trans z3
                    have lz' : wr.heap.size < Wd.heap.size := by omega
                    rw [← hWd] at hup1
                    clear hWd m1 m5 g1 g2 e1 k1 k2 cd z0 z1 z2 z3
                    go_wp2
                    go_roundw
                    case rel => exact ⟨q + 1, _, _, by omega, by go_num, HT2.out, HRW2.out⟩
                    case measure => simp [intOf]; omega
        · have hqn : ¬ (q : Int) < (n0 : Int) := by omega
          clear hq hlt HALL HKN HT0
          go_upto_region 40 with fail
          go_cut [32] (fun v wb => v = .slice (some ⟨wo.heap.size, 0, none⟩) 0 n3 ∧ Fill wo n3 0 [] wb)
          case first =>
            go_wp2_with (at_make; go_must (refine wpList_make_own _ rfl _ _ 40 rfl wo.heap.size 55 i0 _ 8 Yba.underlying40 hi hz0 hz1 .i64 .i64 n3 n3 rfl rfl rfl (by rw [hz2]; omega) (by unfold maxLen; omega) (Nat.le_refl _) ?_); intro Wb own0 gr0)
            go_meet
            exact ⟨rfl, Fill.start own0 gr0⟩
          case rest =>
            rename_i K9 hK9
            obtain ⟨rfl, hF0⟩ := hcut
            refine hK9 _ _ ?_
            exact part2 hk hk' hnow HT.out HRW.out HP.out hn3 hF0 _ rfl
end Go.Proofs.Ybulkcfbe.tab
