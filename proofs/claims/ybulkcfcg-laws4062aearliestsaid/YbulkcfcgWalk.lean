import Derived.Test.YbulkcfcgPred
namespace Go.Proofs.Ybulkcfcg.lawS4062AEarliest
open Go.ChangeShapes Go.WideShapes Go.ChangeAt Go.RowKit
open Go.Proofs.Ybulkcfcg.pm
open Go.ChangeMaps (setBlock)
set_option linter.unusedVariables false
theorem run_makeMap_hint (n : Int) (w : World) : (Instr.makeMap 37 (some (.int .i64 n))).run Yba.prog w = .ok (.map (some w.heap.size)) (w.alloc (.map #[] 0)) := by
  kernel_rfl
/-- What the walk is told of a slice of uint64 that came in. -/
def Arg (w : World) (a : Option Addr) (n : Nat) (z : Nat → Int) : Prop := ∀ i, i < n → ∃ b o, a = some ⟨b, o, none⟩ ∧ w.cell? ⟨b, o + i, none⟩ = some (.int .u64 (z i)) ∧ 0 ≤ z i
set_option maxRecDepth 100000 in
set_option maxHeartbeats 1600000 in
theorem walk_core (a0 a1 : Option Addr) (n c n1 c1 : Nat) (own : Int) (z z1 : Nat → Int) (w : World) (hn : n ≤ 1024) (hn1 : n1 ≤ 1024) (h0 : a0 = none → n = 0) (h1 : a1 = none → n1 = 0) (hA : Arg w a0 n z) (hA1 : Arg w a1 n1 z1) :
    Calls Yba.prog 3 #[.slice a0 n c, .slice a1 n1 c1, .int .u64 own] w fun e w' => e = .returned (.bool true) ∧ Below w.heap.size w w' := by
  obtain ⟨i0, hi, hz0, hz1, hz2⟩ := info_parts info24
  have HA : Hid (Arg w a0 n z) := hA
  have HA1 : Hid (Arg w a1 n1 z1) := hA1
  have H0 : Hid (a0 = none → n = 0) := h0
  have H1 : Hid (a1 = none → n1 = 0) := h1
  clear hA hA1 h0 h1
  have hs0 := fun (w : World) => run_neq_slice_nil_any (P := Yba.prog) w 22 23 a0 n c 0 0 Yba.underlying22
  have hs1 := fun (w : World) => run_neq_slice_nil_any (P := Yba.prog) w 22 23 a1 n1 c1 0 0 Yba.underlying22
  have hmm := run_makeMap_hint
  go_enter Yba.func3, Yba.ntmps3
  go_upto_if 35 with (at_make; refine wpList_make_own _ rfl _ _ 53 rfl (w.heap.size + 1) 24 i0 _ 1 Yba.underlying53 hi hz0 hz1 .i64 .i64 _ n rfl rfl rfl (by rw [hz2]; omega) (by unfold maxLen; omega) (by simp) ?_; intro w1 hown1 hgrow1)
  have hsz : (w.alloc (.cells (txn own (.map none) (.map none)) 52)).heap.size = w.heap.size + 1 := by simp
  have hgrow2 : (w.alloc (.cells (txn own (.map none) (.map none)) 52)).grownBy w1 none := hgrow1
  have S0 : ∀ f, St w.heap.size w w1 0 n f z own (.map none) (.map none) := fun f => by
    refine ⟨((Below.refl _ _).alloc (Nat.le_refl _) _).grown hgrow2 (by omega) (fun k e => by cases e), ?_, ?_, fun i hi => absurd hi (Nat.not_lt_zero _), fun i j hi => absurd hi (Nat.not_lt_zero _), .inl ⟨rfl, rfl⟩⟩
    · rw [hgrow2.block _ (by omega) (by simp)]
      show (w.heap.push _)[w.heap.size]? = _
      simp
    · simpa using hown1
  have HS0 : Hid (∀ f, St w.heap.size w w1 0 n f z own (.map none) (.map none)) := S0
  clear S0 hgrow1 hgrow2 hown1
  clear hsz
  go_cut [8] (fun nodes wx => ∃ (f : Nat → Nat) (sm : Value), nodes = .slice (some ⟨w.heap.size + 1, 0, none⟩) n n ∧ St w.heap.size w wx n n f z own sm (.map none))
  case first =>
    cases a0 with
    | none =>
      have E : Hid (n = 0) := H0.out rfl
      have HS : Hid (∀ f, St w.heap.size w w1 n n f z own (.map none) (.map none)) := by
        have e := E.out
        have h := HS0.out
        show ∀ f, St w.heap.size w w1 n n f z own (.map none) (.map none)
        rw [e] at h ⊢
        exact h
      go_wp2
      go_meet
      case rel => exact ⟨fun _ => 0, .map none, by rw [E.out], HS.out _⟩
    | some ad =>
      simp only [Option.isSome_some]
      obtain ⟨-, c17, -, f17, l17⟩ := (HS0.out fun _ => 0).cell
      have c17' : ∀ o, (w1.alloc o).cell? ⟨w.heap.size, 17, none⟩ = some (.map none) := fun o => by rw [World.cell?_alloc_past _ _ _ l17]; exact c17
      have f17' : ∀ c t, (w1.alloc (.map c t)).frozen? ⟨w.heap.size, 17, none⟩ = false := fun c t => by rw [(Below.refl w1.heap.size w1).alloc (Nat.le_refl _) (.map c t) |>.frozen (p := ⟨w.heap.size, 17, none⟩) l17]; exact f17 17
      have HS1 : Hid (∀ f, St w.heap.size w ((w1.setCell ⟨w.heap.size, 17, none⟩ (.map (some w1.heap.size))).alloc (.map #[] 0)) 0 n f z own (.map (some w1.heap.size)) (.map none)) := fun f => (HS0.out f).addSucc
      clear HS0
      go_wp2
      clear c17 c17' f17 f17' hs0 l17
      go_loopw [8, 9] (fun nd i wr => ∃ (k : Nat) (f : Nat → Nat), k ≤ n ∧ i = .int .i64 k ∧ nd = .slice (some ⟨w.heap.size + 1, 0, none⟩) k n ∧ St w.heap.size w wr k n f z own (.map (some w1.heap.size)) (.map none)) (fun _ i _ => n - (intOf i).toNat)
      case atStart => exact ⟨0, fun _ => 0, by omega, rfl, rfl, HS1.out _⟩
      case round =>
        obtain ⟨k, f, hk, rfl, rfl, hS⟩ := hrel
        have HSr : Hid (St w.heap.size w wr k n f z own (.map (some w1.heap.size)) (.map none)) := hS
        by_cases hlt : k < n
        · obtain ⟨b, o, hab, hc, hz0'⟩ := HA.out k hlt
          obtain rfl : ad = ⟨b, o, none⟩ := by cases hab; rfl
          have hbw : b < w.heap.size := by
            rcases Nat.lt_or_ge b w.heap.size with h | h
            · exact h
            · simp [World.cell?, Array.getElem?_eq_none h] at hc
          have hcr : wr.cell? ⟨b, o + k, none⟩ = some (.int .u64 (z k)) := (hS.bel.cell (p := ⟨b, o + k, none⟩) hbw).trans hc
          obtain ⟨c3, c17, -, f17, l17⟩ := hS.cell
          have hbr : b < wr.heap.size := by omega
          obtain ⟨m, hme, hmB, hmap⟩ : ∃ m, Value.map (some w1.heap.size) = .map (some m) ∧ w.heap.size + 1 < m ∧ wr.heap[m]? = some (.map (entries f k).toArray k) := by
            rcases hS.succ with ⟨h, _⟩ | h
            · cases h
            · exact h
          have hmeq : m = w1.heap.size := by cases hme; rfl
          rw [hmeq] at hmB hmap
          have lm := lt_heap hmap
          -- the insertion
          have hins := run_insert (wr.alloc (.cells (txn (z k) (.map none) (.map none)) 52)) w1.heap.size wr.heap.size k (entries f k).toArray ((Below.heap_alloc _ _ _ lm).trans hmap) ⟨txn (z k) (.map none) (.map none), 52, by show (wr.heap.push _)[wr.heap.size]? = _; simp⟩ (by
            intro e he
            obtain ⟨i, hi, rfl⟩ := mem_entries.1 (by simpa using he)
            have hn := hS.nodes i hi
            exact ⟨f i, rfl, plain_alloc ⟨_, _, hn.2⟩ _, by have := lt_heap hn.2; omega⟩)
          obtain ⟨W2, hW2⟩ : ∃ W2, W2 = setBlock (wr.alloc (.cells (txn (z k) (.map none) (.map none)) 52)) w1.heap.size (.map ((entries f k).toArray.push ⟨ptr wr.heap.size, .agg #[], k⟩) (k + 1)) := ⟨_, rfl⟩
          rw [← hW2] at hins
          simp only [txn] at hins
          have hown2 : W2.ownsRow (w.heap.size + 1) 24 1 (.slice (some ⟨w.heap.size + 1, 0, none⟩) k n) k ((List.range k).map fun i => ptr (f i)) := by
            rw [hW2]
            refine (hS.row.alloc (.cells (txn (z k) (.map none) (.map none)) 52)).kept (row := some w1.heap.size) ⟨rfl, rfl, rfl, ?_, fun j _ hj => ?_⟩ (.inr (by simp [Value.ownBlock]; omega))
            · show _ ≤ ((wr.alloc _).heap.setIfInBounds _ _).size
              simp
            · rw [setBlock_block, if_neg (fun e => hj (by rw [e]))]
          have HW2 : Hid (W2 = setBlock (wr.alloc (.cells (txn (z k) (.map none) (.map none)) 52)) w1.heap.size (.map ((entries f k).toArray.push ⟨ptr wr.heap.size, .agg #[], k⟩) (k + 1))) := hW2
          have HM : Hid (wr.heap[w1.heap.size]? = some (.map (entries f k).toArray k) ∧ w.heap.size + 1 < w1.heap.size) := ⟨hmap, hmB⟩
          have s2 : W2.heap.size = wr.heap.size + 1 := by
            rw [hW2]
            show ((wr.alloc _).heap.setIfInBounds _ _).size = _
            simp
          have HO2 : Hid (W2.ownsRow (w.heap.size + 1) 24 1 (.slice (some ⟨w.heap.size + 1, 0, none⟩) k n) k ((List.range k).map fun i => ptr (f i))) := hown2
          have Hs2 : Hid (W2.heap.size = wr.heap.size + 1) := s2
          clear s2 hown2 hW2 hmap hmB hme hmeq hS hc lm hab
          go_wp2_with (at_builtin; go_must (refine wpList_append_fits _ rfl _ _ 53 rfl (w.heap.size + 1) 24 i0 1 Yba.underlying53 hi hz1 (w.heap.size + 1) k n _ rfl (HO2.out.alloc _) ⟨W2.heap.size, 0, none⟩ 1 1 [ptr wr.heap.size] rfl rfl (cell_one_new _ _ _) (by simp [Value.oneCell']) (by omega) ?_); intro W4 hown4 hgrow4)
          have hst := HSr.out.step HM.out.1 HM.out.2 (.cells #[ptr wr.heap.size] 24) hown4 (by rw [← HW2.out]; exact hgrow4)
          go_roundw
          case rel => exact ⟨k + 1, _, by omega, rfl, rfl, hst⟩
          case measure => simp [intOf]; omega
        · obtain rfl : k = n := by omega
          go_wp2
          go_meet
          case rel => exact ⟨f, _, rfl, HSr.out⟩
  case rest =>
    clear H0 HS0 hs0
    obtain ⟨f, sm, rfl, hS⟩ := hcut
    have HS : Hid (St w.heap.size w wc n n f z own sm (.map none)) := hS
    clear hS
    go_upto_if 70 with fail
    go_cut [11] (fun _ wx => ∃ pm, St w.heap.size w wx n n f z own sm pm ∧ ((pm = .map none ∧ n1 = 0) ∨ ∃ m es, pm = .map (some m) ∧ wx.heap[m]? = some (.map es n1) ∧ es.size = n1))
    case first =>
      cases a1 with
      | none =>
        have E : Hid (n1 = 0) := H1.out rfl
        go_wp2
        go_meet
        case rel => exact ⟨.map none, HS.out, .inl ⟨rfl, E.out⟩⟩
      | some ad =>
        simp only [Option.isSome_some]
        obtain ⟨-, -, c18, f18, l18⟩ := HS.out.cell
        have c18' : ∀ o, (wc.alloc o).cell? ⟨w.heap.size, 18, none⟩ = some (.map none) := fun o => by rw [World.cell?_alloc_past _ _ _ l18]; exact c18
        have f18' : ∀ c t, (wc.alloc (.map c t)).frozen? ⟨w.heap.size, 18, none⟩ = false := fun c t => by rw [(Below.refl wc.heap.size wc).alloc (Nat.le_refl _) (.map c t) |>.frozen (p := ⟨w.heap.size, 18, none⟩) l18]; exact f18 18
        go_wp2
        clear c18 c18' f18 f18' hs1 l18
        go_loopw [11] (fun i wr => ∃ (k : Nat) (g : Nat → Nat), k ≤ n1 ∧ i = .int .i64 k ∧ PredSt wc.heap.size (wc.setCell ⟨w.heap.size, 18, none⟩ (.map (some wc.heap.size))) wr k g) (fun i _ => n1 - (intOf i).toNat)
        case atStart => exact ⟨0, fun _ => 0, by omega, rfl, PredSt.zero _ _ (by simp [World.setCell])⟩
        case round =>
          obtain ⟨k, g, hk, rfl, hP⟩ := hrel
          have HP : Hid (PredSt wc.heap.size (wc.setCell ⟨w.heap.size, 18, none⟩ (.map (some wc.heap.size))) wr k g) := hP
          by_cases hlt : k < n1
          · obtain ⟨b, o, hab, hc, hz0'⟩ := HA1.out k hlt
            obtain rfl : ad = ⟨b, o, none⟩ := by cases hab; rfl
            have hbw : b < w.heap.size := by
              rcases Nat.lt_or_ge b w.heap.size with h | h
              · exact h
              · simp [World.cell?, Array.getElem?_eq_none h] at hc
            have hSr := (HS.out.setPred (.map (some wc.heap.size))).kept (by simp [World.setCell]) hP.bel
            have hcr : wr.cell? ⟨b, o + k, none⟩ = some (.int .u64 (z1 k)) := (hSr.bel.cell (p := ⟨b, o + k, none⟩) hbw).trans hc
            obtain ⟨-, -, c18, f18, l18⟩ := hSr.cell
            have hbr : b < wr.heap.size := by omega
            have hins := hP.insert (z1 k)
            obtain ⟨W2, hW2⟩ : ∃ W2, W2 = setBlock (wr.alloc (.cells (txn (z1 k) (.map none) (.map none)) 52)) wc.heap.size (.map ((entries g k).toArray.push ⟨ptr wr.heap.size, .agg #[], k⟩) (k + 1)) := ⟨_, rfl⟩
            rw [← hW2] at hins
            have HN : Hid (PredSt wc.heap.size (wc.setCell ⟨w.heap.size, 18, none⟩ (.map (some wc.heap.size))) W2 (k + 1) (fun i => if i = k then wr.heap.size else g i)) := by rw [hW2]; exact hP.step (z1 k)
            simp only [txn] at hins
            clear hW2
            clear hP hc hab hSr
            go_wp2
            go_roundw
            case rel => exact ⟨k + 1, _, by omega, rfl, HN.out⟩
            case measure => simp [intOf]; omega
          · obtain rfl : k = n1 := by omega
            go_wp2
            go_meet
            case rel => exact ⟨_, (HS.out.setPred (.map (some wc.heap.size))).kept (by simp [World.setCell]) HP.out.bel, .inr ⟨_, _, rfl, HP.out.map, by simp [entries]⟩⟩
    case rest =>
      clear H1 hs1 HS
      obtain ⟨pm, hS, hpm⟩ := hcut
      have HS : Hid (St w.heap.size w wc n n f z own sm pm) := hS
      have HP : Hid ((pm = .map none ∧ n1 = 0) ∨ ∃ m es, pm = .map (some m) ∧ wc.heap[m]? = some (.map es n1) ∧ es.size = n1) := hpm
      have hcall := first_any hS
      clear hS hpm
      have hkeep : ∀ w2, Below wc.heap.size wc w2 → St w.heap.size w w2 n n f z own sm pm ∧ ((pm = .map none ∧ n1 = 0) ∨ ∃ m es, pm = .map (some m) ∧ w2.heap[m]? = some (.map es n1) ∧ es.size = n1) := fun w2 hb => by
        refine ⟨HS.out.kept (Nat.le_refl _) hb, ?_⟩
        rcases HP.out with h | ⟨m, es, h1, h2, h3⟩
        · exact .inl h
        · exact .inr ⟨m, es, h1, (hb.block _ (lt_heap h2)).trans h2, h3⟩
      go_wp2_with (go_at_call 4; refine hcall.mono ?_; rintro e w2 ⟨v, rfl, hL, hb⟩)
      obtain ⟨hS2, hP2⟩ := hkeep w2 hb
      have HS2 : Hid (St w.heap.size w w2 n n f z own sm pm) := hS2
      have hlenS : (Builtin.len_ #[37] 3 #[sm]).run Yba.prog w2 = .ok (.int .i64 n) w2 := by
        rcases hS2.succ with ⟨rfl, rfl⟩ | ⟨m, rfl, hm, hmap⟩
        · exact Maps.len_nil Yba.underlying37 3
        · rw [len_map hmap]
          simp [entries]
      have hlenP : (Builtin.len_ #[37] 3 #[pm]).run Yba.prog w2 = .ok (.int .i64 n1) w2 := by
        rcases hP2 with ⟨rfl, rfl⟩ | ⟨m, es, rfl, hmap, he⟩
        · exact Maps.len_nil Yba.underlying37 3
        · rw [len_map hmap, he]
      obtain ⟨c3, c17, c18, -, l17⟩ := hS2.cell
      have HL : Hid (Least ((List.range n).map z) v) := hL
      have hleast := least_any a0 n c z w2 (by omega) (fun i hi => by
        obtain ⟨b, o, h1, h2, h3⟩ := HA.out i hi
        have hbw : b < w.heap.size := by
          rcases Nat.lt_or_ge b w.heap.size with h | h
          · exact h
          · simp [World.cell?, Array.getElem?_eq_none h] at h2
        exact ⟨b, o, h1, (hS2.bel.cell (p := ⟨b, o + i, none⟩) hbw).trans h2, h3⟩)
      clear hkeep hS2 hP2 hL hb hcall HS HP
      refine hleast.mono ?_
      rintro e wx ⟨v', rfl, hL', hwx⟩
      obtain rfl := hwx.symm
      obtain rfl : v' = v := hL'.unique HL.out fun _ => Iff.rfl
      clear hleast hL' HL
      go_wp2_with fail
      clear hlenS hlenP c3 c17 c18 l17 hmm HA1 hwx hi hz0 hz1 hz2
      go_loopw [14] (fun i wr => ∃ (k : Nat), k ≤ n ∧ i = .int .i64 k ∧ St w.heap.size w wr n n f z own sm pm) (fun i _ => n - (intOf i).toNat)
      case atStart => exact ⟨0, by omega, rfl, HS2.out⟩
      case round =>
        obtain ⟨k, hk, rfl, hS⟩ := hrel
        have HSr : Hid (St w.heap.size w wr n n f z own sm pm) := hS
        by_cases hlt : k < n
        · obtain ⟨b, o, hab, hc, hz0'⟩ := HA.out k hlt
          have hbw : b < w.heap.size := by
            rcases Nat.lt_or_ge b w.heap.size with h | h
            · exact h
            · simp [World.cell?, Array.getElem?_eq_none h] at hc
          have hcr : wr.cell? ⟨b, o + k, none⟩ = some (.int .u64 (z k)) := (hS.bel.cell (p := ⟨b, o + k, none⟩) hbw).trans hc
          obtain ⟨c3, c17, -, -, l17⟩ := hS.cell
          obtain ⟨crow, lrow⟩ := hS.rowCell hlt
          have cnode : wr.cell? ⟨f k, 3, none⟩ = some (.int .u64 (z k)) := by simp [World.cell?, (hS.nodes k hlt).2, txn]
          have lnode := lt_heap (hS.nodes k hlt).2
          have hbr : b < wr.heap.size := by omega
          obtain ⟨m, rfl⟩ : ∃ m, sm = .map (some m) := by
            rcases hS.succ with ⟨_, h⟩ | ⟨m, h, _⟩
            · omega
            · exact ⟨m, h⟩
          have hlook := hS.look hlt
          clear hS hc
          subst hab
          go_upto_region 33 with (go_quiet (fail))
          obtain ⟨wd, hwd⟩ : ∃ wd, wd = wr.drewN nq := ⟨_, rfl⟩
          rw [← hwd]
          have hh : wd.heap = wr.heap := by rw [hwd]; rfl
          have hSd : St w.heap.size w wd n n f z own (.map (some m)) pm := HSr.out.kept (Nat.le_refl _) ⟨by rw [hwd]; rfl, by rw [hwd]; rfl, by rw [hwd]; rfl, by rw [hh]; exact Nat.le_refl _, fun j _ => by rw [hh]⟩
          have HSd : Hid (St w.heap.size w wd n n f z own (.map (some m)) pm) := hSd
          have hlookA := hlook wd.drew (fun b _ => by show wd.heap[b]? = _; rw [hh])
          have hlookB := hlook (wd.alloc (.cells #[] 27)).drew (fun b hb => by rw [← hh] at hb ⊢; exact Below.heap_alloc _ _ _ hb)
          obtain ⟨d3, d17, -, -, dl17⟩ := hSd.cell
          obtain ⟨drow, dlrow⟩ := hSd.rowCell hlt
          clear hSd hlook c3 c17 crow cnode lnode lrow l17 hh hwd HSr HS2 hbr hcr
          go_region
          all_goals
            go_wp2
            go_roundw
            case rel =>
              refine ⟨k + 1, by omega, rfl, HSd.out.kept (Nat.le_refl _) ?_⟩
              first
                | exact ((Below.refl _ _).alloc (Nat.le_refl _) _).drew
                | exact (Below.refl _ _).drew.alloc (Nat.le_refl _) _
            case measure => simp [intOf]; omega
        · obtain rfl : k = n := by omega
          go_wp2
          go_ret
          exact ⟨rfl, HSr.out.bel⟩
end Go.Proofs.Ybulkcfcg.lawS4062AEarliest
