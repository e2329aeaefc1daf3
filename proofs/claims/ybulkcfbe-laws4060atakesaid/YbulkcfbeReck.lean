/- The law reckons what it wants. -/
import Derived.Test.YbulkcfbeSame
namespace Go.Proofs.Ybulkcfbe.tab
open Go.ChangeShapes Go.WideShapes Go.ChangeAt Go.RowKit
open Go.Proofs.Ybulkcfbe.tm Go.Proofs.Ybulkcfbe.sm Go.Proofs.Ybulkcfbe.pd Go.Proofs.Ybulkcfbe.inv
open Go.ChangeMaps (setBlock)
set_option linter.unusedVariables false
theorem ReadsW.bound {w : World} {a : Option Addr} {n : Nat} {ws : List Wt} (h : ReadsW w a n ws) : ∀ t ∈ ws, (-2147483648 ≤ t.x ∧ t.x ≤ 2147483647) ∧ t.l ≤ 255 := by
  intro t ht
  obtain ⟨i, hi⟩ := List.mem_iff_getElem?.1 ht
  obtain ⟨_, _, _, _, _, _, _, h1, h2⟩ := h.at_ i t hi
  exact ⟨h1, h2⟩
set_option maxRecDepth 100000 in
set_option maxHeartbeats 6400000 in
theorem part3 {c0 c1 c2 c7 c8 c9 c10 c11 c12 c13 c14 c15 c22 c23 c24 c25 c26 c27 c28 c29 c30 c31 c32 c33 c34 c38 c39 c40 c41 c42 c43 c44 c45 c46 c47 c48 c49 c50 c51 c52 c53 c54 c55 c56 c57 c58 c59 c60 c61 c62 c63 c64 c65 c66 c67 c68 c69 c70 c71 c72 c73 c74 c75 c76 c77 c78 c79 c80 c81 c82 c83 c84 c85 c86 c87 c88 c89 c90 c91 c92 c93 c94 c95 c96 c97 c98 c99 c100 c101 c102 c103 c104 c105 c106 c107 c108 c109 c110 c111 c112 c113 c114 c115 c116 c117 c118 c119 c120 c121 c122 c123 c124 c125 c126 c127 c128 c129 c130 c131 c132 c133 c134 c135 c136 c137 c138 c139 c140 c141 c142 c143 c144 c145 c146 c147 c148 c149 c150 c151 c152 c153 c154 c155 c156 c157 c158 c159 c160 c161 c162 c163 c164 c165 c166 c167 c168 c169 c170 c171 c172 c173 c174 c175 c176 c177 c178 c179 c180 c181 c182 c183 c184 c185 c186 c187 c188 c189 c190 c191 c192 c193 c194 c195 c196 c197 c198 c199 c200 c201 c202 c203 c204 c205 c206 c207 c208 c209 c210 c211 c212 c213 c214 c215 c216 c217 c218 c219 c220 c221 c222 c223 c224 c225 c226 c227 c228 c229 c230 c231 c232 c233 c234 c235 c236 c237 c238 c239 c240 c241 c242 c243 c244 c245 c246 c247 c248 c249 c250 c251 c252 c253 c254 c255 c256 c257 c258 c259 c260 c261 c262 c263 c264 c265 c266 c267 c268 c269 c270 c271 c272 c273 c274 c275 c276 c277 c278 c279 c280 c281 c282 c283 c284 c285 c286 c287 c288 c289 c290 c291 c292 c293 c294 c295 c296 c297 c298 c299 c300 c301 c302 c303 c304 c305 c306 c307 c308 c309 c310 c311 c312 c313 c314 c315 c316 c317 c318 c319 c320 c321 c322 c323 c324 c325 c326 c327 c328 c329 c330 c331 c332 c333 c334 c335 c336 c337 c338 c339 c340 c341 c342 c343 c344 c345 c346 c347 c348 c349 c350 c351 c352 c353 c354 c355 c356 c357 c358 c359 c360 c361 c362 c363 c364 c365 c366 c367 c368 c369 c370 c371 c372 c373 c374 c375 : Value} {w wo wc : World} {ks j cc3 : Nat} {a3 : Option Addr} {S : Nat → Option Slot} {R : Nat → Option Nat} {size bytes now c : Int} {L : List Pend} {pre : List Wt} {got : Value} (hs : ks < 8) (hT : Tab w.heap.size w wo S R size bytes) (hRW : ∀ s e, s < 8 → S s = some e → ReadsW w e.a e.n e.ws) (hP : ReadsW w a3 j pre) (hn3 : j ≤ 1024) (hLd : L.map wtOf = pre)
    (hA : Aft w.heap.size ks wo.heap.size w S R size bytes now L got c wc) (code : Code) (hc : Yba.f3.body.bind (restOf 48) = some code) :
    Code.wp Yba.prog code (bodyPost Yba.prog Yba.f3 fun e w' => e = .returned (.bool true) ∧ Below w.heap.size w w') ⟨#[c0, c1, c2, .slice a3 j cc3, .int .i32 now, .int .i64 size, .int .i64 bytes, c7, c8, c9, c10, c11, c12, c13, c14, c15, .pointer (some ⟨w.heap.size, 0, none⟩), .pointer (some ⟨w.heap.size + 1, 0, none⟩), .pointer (some ⟨w.heap.size + 2, 0, none⟩), .pointer (some ⟨w.heap.size + 3, 0, none⟩), .pointer (some ⟨w.heap.size + 4, 0, none⟩), .pointer (some ⟨w.heap.size + 7, 0, none⟩), c22, c23, c24, c25, c26, c27, c28, c29, c30, c31, c32, c33, c34, .int .i64 ks, got, .int .i64 c, c38, c39, c40, c41, c42, c43, c44, c45, c46, c47, c48, c49, c50, c51, c52, c53, c54, c55, c56, c57, c58, c59, c60, c61, c62, c63, c64, c65, c66, c67, c68, c69, c70, c71, c72, c73, c74, c75, c76, c77, c78, c79, c80, c81, c82, c83, c84, c85, c86, c87, c88, c89, c90, c91, c92, c93, c94, c95, c96, c97, c98, c99, c100, c101, c102, c103, c104, c105, c106, c107, c108, c109, c110, c111, c112, c113, c114, c115, c116, c117, c118, c119, c120, c121, c122, c123, c124, c125, c126, c127, c128, c129, c130, c131, c132, c133, c134, c135, c136, c137, c138, c139, c140, c141, c142, c143, c144, c145, c146, c147, c148, c149, c150, c151, c152, c153, c154, c155, c156, c157, c158, c159, c160, c161, c162, c163, c164, c165, c166, c167, c168, c169, c170, c171, c172, c173, c174, c175, c176, c177, c178, c179, c180, c181, c182, c183, c184, c185, c186, c187, c188, c189, c190, c191, c192, c193, c194, c195, c196, c197, c198, c199, c200, c201, c202, c203, c204, c205, c206, c207, c208, c209, c210, c211, c212, c213, c214, c215, c216, c217, c218, c219, c220, c221, c222, c223, c224, c225, c226, c227, c228, c229, c230, c231, c232, c233, c234, c235, c236, c237, c238, c239, c240, c241, c242, c243, c244, c245, c246, c247, c248, c249, c250, c251, c252, c253, c254, c255, c256, c257, c258, c259, c260, c261, c262, c263, c264, c265, c266, c267, c268, c269, c270, c271, c272, c273, c274, c275, c276, c277, c278, c279, c280, c281, c282, c283, c284, c285, c286, c287, c288, c289, c290, c291, c292, c293, c294, c295, c296, c297, c298, c299, c300, c301, c302, c303, c304, c305, c306, c307, c308, c309, c310, c311, c312, c313, c314, c315, c316, c317, c318, c319, c320, c321, c322, c323, c324, c325, c326, c327, c328, c329, c330, c331, c332, c333, c334, c335, c336, c337, c338, c339, c340, c341, c342, c343, c344, c345, c346, c347, c348, c349, c350, c351, c352, c353, c354, c355, c356, c357, c358, c359, c360, c361, c362, c363, c364, c365, c366, c367, c368, c369, c370, c371, c372, c373, c374, c375], []⟩ wc := by
  conv at hc => lhs; whnf
  cases hc
  have HT : Hid (Tab w.heap.size w wo S R size bytes) := hT
  have HRW : Hid (∀ s e, s < 8 → S s = some e → ReadsW w e.a e.n e.ws) := hRW
  have HP : Hid (ReadsW w a3 j pre) := hP
  have HLd : Hid (L.map wtOf = pre) := hLd
  have HLl : Hid (L.length = j) := by
    have := congrArg List.length hLd
    rw [List.length_map, hP.len] at this
    exact this
  have HN : Hid ((L ++ live now (psOf (S ks))).length ≤ 4096) := by
    show _ ≤ _
    have h1 := HLl.out
    rw [List.length_append]
    cases hS : S ks with
    | none => simp [psOf, live]; omega
    | some e =>
      obtain ⟨_, _, _, h2, h3⟩ := hT.rows ks e hs hS
      have h4 := List.length_filter_le (fun q : Pend => decide (now < q.x)) e.ps
      show _ + (List.filter (fun q : Pend => decide (now < q.x)) e.ps).length ≤ _
      omega
  have HGb : Hid (∀ q ∈ L ++ live now (psOf (S ks)), (-2147483648 ≤ q.x ∧ q.x ≤ 2147483647) ∧ q.l ≤ 255) := by
    intro q hq
    rcases List.mem_append.1 hq with hq | hq
    · have : wtOf q ∈ pre := by rw [← hLd]; exact List.mem_map.2 ⟨q, hq, rfl⟩
      exact hP.bound _ this
    · cases hS : S ks with
      | none => rw [hS] at hq; simp [psOf, live] at hq
      | some e =>
        rw [hS] at hq
        obtain ⟨_, _, h1, _, _⟩ := hT.rows ks e hs hS
        have h2 : q ∈ e.ps := (List.mem_filter.1 hq).1
        have : wtOf q ∈ e.ws := by rw [← h1]; exact List.mem_map.2 ⟨q, h2, rfl⟩
        exact (hRW ks e hs hS).bound _ this
  clear hT hRW hP hLd
  dsimp only
  obtain ⟨i1, hi1, hy0, hy1, hy2⟩ := info_of info43
  obtain ⟨v', W', hrun, hown, hbW⟩ := want_start (c := cc3) HP.out hn3 hA.bel 23
  have HA : Hid (Aft w.heap.size ks wo.heap.size w S R size bytes now L got c wc) := hA
  have HBW : Hid (Below wc.heap.size wc W') := hbW
  have HWO : Hid (W'.ownsRow wc.heap.size 43 3 v' j (flatW pre)) := hown
  have hA1 := hA.kept hbW
  have cP : W'.cell? ⟨w.heap.size + 2, ks, none⟩ = some (.bool (S ks).isSome) := by
    simp [World.cell?, hA1.pres, presA, hs]
  have lP := lt_heap hA1.pres
  have hsi : (ks : Int) < 8 := by omega
  clear hA hown hbW hA1
  go_upto_if 216 with (at_builtin; refine wpList_append_run rfl _ _ 23 rfl _ _ rfl rfl hrun ?_)
  clear hrun
  go_cut [38, 39, 40, 41] (fun v38 v39 v40 v41 wf => v39 = .int .i64 (if (S ks).isSome = true then wrap64 (size - 1) else size) ∧ v40 = .int .i64 (bytesOf bytes (psOf (S ks))) ∧ v41 = .int .i64 (if (S ks).isSome = true then 1 else 0) ∧ wf.ownsRow wc.heap.size 43 3 v38 (L ++ live now (psOf (S ks))).length (flatW ((L ++ live now (psOf (S ks))).map wtOf)) ∧ Below wc.heap.size wc wf)
  case first =>
    cases hS : S ks with
    | none =>
      rw [hS] at cP
      have HSe : Hid (S ks = none) := hS
      clear hS
      have HG : Hid (W'.ownsRow wc.heap.size 43 3 v' (L ++ live now (psOf none)).length (flatW ((L ++ live now (psOf none)).map wtOf))) := by
        have e : L ++ live now (psOf none) = L := by simp [psOf, live]
        show W'.ownsRow _ _ _ _ _ _
        rw [e, HLd.out, HLl.out]
        exact HWO.out
      go_wp2_with fail
      go_meet
      rw [HSe.out]
      exact ⟨rfl, rfl, rfl, HG.out, HBW.out⟩
    | some e =>
      rw [hS] at cP
      have hRe := HRW.out ks e hs hS
      have HRe : Hid (ReadsW w e.a e.n e.ws) := hRe
      have HSe : Hid (S ks = some e) := hS
      obtain ⟨_, _, hpw, hpl, hen⟩ := HT.out.rows ks e hs hS
      have HPW : Hid (e.ps.map wtOf = e.ws) := hpw
      have cM : W'.cell? ⟨w.heap.size + 3, ks, none⟩ = some (.slice e.a e.n e.c) := by
        have := (HA.out.kept HBW.out).model
        simp [World.cell?, this, modelA, hs, hS]
      have lM := lt_heap (HA.out.kept HBW.out).model
      clear hpw hpl hRe hS
      go_wp2_with fail
      clear cP cM lP lM
      go_loopw [38, 40, 223] (fun v b i wq => ∃ k : Nat, k ≤ e.n ∧ i = .int .i64 k ∧ b = .int .i64 (bytesW bytes (e.ws.take k)) ∧ wq.ownsRow wc.heap.size 43 3 v (pre ++ liveW now (e.ws.take k)).length (flatW (pre ++ liveW now (e.ws.take k))) ∧ Below wc.heap.size wc wq) (fun v b i _ => e.n - (intOf i).toNat)
      case atStart =>
        refine ⟨0, by omega, rfl, rfl, ?_, HBW.out⟩
        have e0 : pre ++ liveW now (e.ws.take 0) = pre := by simp [liveW]
        rw [e0, HP.out.len]
        exact HWO.out
      case round =>
        obtain ⟨wq, hwq⟩ : ∃ wq, wq = wr := ⟨_, rfl⟩
        subst hwq
        obtain ⟨k, hk1, rfl, rfl, hown, hbq⟩ := hrel
        have HO : Hid (wq.ownsRow wc.heap.size 43 3 u38 (pre ++ liveW now (e.ws.take k)).length (flatW (pre ++ liveW now (e.ws.take k)))) := hown
        have HBq : Hid (Below wc.heap.size wc wq) := hbq
        clear hown hbq
        by_cases hlk : k < e.n
        · obtain ⟨q', hq'⟩ : ∃ q', e.ws[k]? = some q' := ⟨_, List.getElem?_eq_getElem (by rw [HRe.out.len]; exact hlk)⟩
          have HQ : Hid (e.ws[k]? = some q') := hq'
          obtain ⟨b', o', ea, lb', x0, x1, x2, hx, hl⟩ := HRe.out.at_ k q' hq'
          have hbw := HA.out.bel.trans (HBq.out.mono HA.out.bel.size)
          have y0 := (hbw.cell (p := ⟨b', o' + k * 3, none⟩) lb').trans x0
          have y1 := (hbw.cell (p := ⟨b', o' + k * 3 + 1, none⟩) lb').trans x1
          have y2 := (hbw.cell (p := ⟨b', o' + k * 3 + 2, none⟩) lb').trans x2
          have lbr' : b' < wq.heap.size := Nat.lt_of_lt_of_le lb' hbw.size
          rw [ea]
          obtain ⟨bk, hbk⟩ : ∃ bk, bk = bytesW bytes (e.ws.take k) := ⟨_, rfl⟩
          have HBK : Hid (wrap64 (bk - q'.l) = bytesW bytes (e.ws.take (k + 1))) := by
            show _ = _
            rw [List.take_add_one, hq', Option.toList_some, bytesW_snoc, hbk]
          have HLK : Hid (liveW now (e.ws.take (k + 1)) = liveW now (e.ws.take k) ++ (if now < q'.x then [q'] else [])) := by
            show _ = _
            rw [List.take_add_one, hq', Option.toList_some, liveW_snoc]
          rw [← hbk]
          clear x0 x1 x2 hq' hbw hbk
          by_cases hx' : now < q'.x
          · go_upto_region 58 with fail
            generalize hw2 : wq.alloc (.cells #[.int .u16 q'.p, .int .i32 q'.x, .int .u8 q'.l] 43) = w2
            have HO2 : Hid (w2.ownsRow wc.heap.size 43 3 u38 (pre ++ liveW now (e.ws.take k)).length (flatW (pre ++ liveW now (e.ws.take k)))) := by rw [← hw2]; exact HO.out.alloc _
            have HB2 : Hid (Below wc.heap.size wc w2) := by rw [← hw2]; exact HBq.out.alloc HBq.out.size _
            have hb2 : w2.heap[wq.heap.size]? = some (.cells #[.int .u16 q'.p, .int .i32 q'.x, .int .u8 q'.l] 43) := by
              rw [← hw2]
              show (wq.heap.push _)[wq.heap.size]? = _
              simp
            have z0 : w2.cell? ⟨wq.heap.size, 0, none⟩ = some (.int .u16 q'.p) := by simp [World.cell?, hb2]
            have z1 : w2.cell? ⟨wq.heap.size, 1, none⟩ = some (.int .i32 q'.x) := by simp [World.cell?, hb2]
            have z2 : w2.cell? ⟨wq.heap.size, 2, none⟩ = some (.int .u8 q'.l) := by simp [World.cell?, hb2]
            have lz := lt_heap hb2
            have HXL : Hid ((pre ++ liveW now (e.ws.take k)).length ≤ 2048) := by
              show _ ≤ _
              have h1 := List.length_filter_le (fun q : Wt => decide (now < q.x)) (e.ws.take k)
              have h2 := HP.out.len
              rw [List.length_append]
              unfold liveW
              simp at h1 ⊢
              omega
            obtain ⟨X, hX⟩ : ∃ X, X = pre ++ liveW now (e.ws.take k) := ⟨_, rfl⟩
            rw [← hX] at HO2 HXL
            have HX : Hid (pre ++ liveW now (e.ws.take (k + 1)) = X ++ [q']) := by
              have := HLK.out
              rw [if_pos hx'] at this
              show _ = _
              rw [this, hX, List.append_assoc]
            have hxl := HXL.out
            clear hw2 hb2 y0 y1 y2 hX
            go_wp2_with (at_builtin; go_must (refine wpList_append_own _ rfl _ _ 23 rfl wc.heap.size 43 i1 _ 3 12 Yba.underlying23 hi1 hy0 hy1 hy2 rfl (by decide) u38 X.length (flatW X) rfl (HO2.out.alloc _) ⟨w2.heap.size, 0, none⟩ 1 1 q'.cells rfl rfl (fun j u h => new_cell w2 _ 43 j u h) (fun u hu => flatW_oneCell [q'] u (by simpa [flatW] using hu)) (by unfold maxLen; omega) (by omega) (by have := HB2.out.size; simp; omega) ?_); intro v3 W3 hown3 hgr3 hnil3)
            have HO3 : Hid (W3.ownsRow wc.heap.size 43 3 v3 (pre ++ liveW now (e.ws.take (k + 1))).length (flatW (pre ++ liveW now (e.ws.take (k + 1))))) := by
              show W3.ownsRow _ _ _ _ _ _
              rw [HX.out, List.length_append, flatW_append]
              have : flatW [q'] = q'.cells := by simp [flatW]
              rw [this]
              exact hown3
            have HB3 : Hid (Below wc.heap.size wc W3) := (HB2.out.alloc HB2.out.size _).grown hgr3 (by have := HB2.out.size; simp; omega) (fun k' hk' => (HO2.out.lt k' hk').1)
            clear hown3 hgr3 hnil3
            go_roundw
            case rel => (repeat apply Exists.intro); exact ⟨⟨k + 1, by omega, by go_num, by rw [← HBK.out], HO3.out, HB3.out⟩, rfl⟩
            case measure => simp [intOf]; omega
          · go_wp2
            go_roundw
            case rel =>
              refine ⟨k + 1, by omega, by go_num, by rw [← HBK.out], ?_, HBq.out.alloc HBq.out.size _⟩
              have := HLK.out
              rw [if_neg hx', List.append_nil] at this
              rw [this]
              exact HO.out.alloc _
            case measure => simp [intOf]; omega
        · obtain rfl : k = e.n := by omega
          have HF5 : Hid (Value.int .i64 (bytesW bytes (e.ws.take e.n)) = .int .i64 (bytesOf bytes (psOf (some e))) ∧ wq.ownsRow wc.heap.size 43 3 u38 (L ++ live now (psOf (some e))).length (flatW ((L ++ live now (psOf (some e))).map wtOf)) ∧ Below wc.heap.size wc wq) := by
            have et : e.ws.take e.n = e.ws := by rw [← HRe.out.len, List.take_length]
            have eg : (L ++ live now (psOf (some e))).map wtOf = pre ++ liveW now e.ws := by
              rw [List.map_append, HLd.out, live_map]
              show _ ++ liveW now (e.ps.map wtOf) = _
              rw [HPW.out]
            have el : (L ++ live now (psOf (some e))).length = (pre ++ liveW now e.ws).length := by rw [← eg, List.length_map]
            refine ⟨?_, ?_, HBq.out⟩
            · rw [et, bytes_map]
              show _ = Value.int .i64 (bytesW bytes (e.ps.map wtOf))
              rw [HPW.out]
            · rw [el, eg]
              have := HO.out
              rw [et] at this
              exact this
          go_wp2_with fail
          go_meet
          rw [HSe.out]
          exact ⟨rfl, HF5.out.1, rfl, HF5.out.2.1, HF5.out.2.2⟩
  case rest =>
    rename_i K9 hK9
    obtain ⟨rfl, rfl, rfl, hown, hbf⟩ := hcut
    refine hK9 _ _ ?_
    exact part4 hs (HA.out.kept hbf) hown HN.out HGb.out _ rfl
end Go.Proofs.Ybulkcfbe.tab
