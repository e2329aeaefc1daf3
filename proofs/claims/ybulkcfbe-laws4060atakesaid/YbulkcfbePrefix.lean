/- The law's prefix, and the call of take. -/
import Derived.Test.YbulkcfbeReck
namespace Go.Proofs.Ybulkcfbe.tab
open Go.ChangeShapes Go.WideShapes Go.ChangeAt Go.RowKit
open Go.Proofs.Ybulkcfbe.tm Go.Proofs.Ybulkcfbe.sm Go.Proofs.Ybulkcfbe.pd Go.Proofs.Ybulkcfbe.inv
open Go.ChangeMaps (setBlock)
set_option linter.unusedVariables false
set_option maxRecDepth 100000 in
set_option maxHeartbeats 6400000 in
theorem part2 {c0 c7 c8 c9 c10 c11 c12 c13 c14 c15 c22 c23 c24 c25 c26 c27 c28 c29 c30 c31 c33 c34 c35 c36 c37 c38 c39 c40 c41 c42 c43 c44 c45 c46 c47 c48 c49 c50 c51 c52 c53 c54 c55 c56 c57 c58 c59 c60 c61 c62 c63 c64 c65 c66 c67 c68 c69 c70 c71 c72 c73 c74 c75 c76 c77 c78 c79 c80 c81 c82 c83 c84 c85 c86 c87 c88 c89 c90 c91 c92 c93 c94 c95 c96 c97 c98 c99 c100 c101 c102 c103 c104 c105 c106 c107 c108 c109 c110 c111 c112 c113 c114 c115 c116 c117 c118 c119 c120 c121 c122 c123 c124 c125 c126 c127 c128 c129 c130 c131 c132 c133 c134 c135 c136 c137 c138 c139 c140 c141 c142 c143 c144 c145 c146 c147 c148 c149 c150 c151 c152 c153 c154 c155 c156 c157 c158 c159 c160 c161 c162 c163 c164 c165 c166 c167 c168 c169 c170 c171 c172 c173 c174 c175 c176 c177 c178 c179 c180 c181 c182 c183 c184 c185 c186 c187 c188 c189 c190 c191 c192 c193 c194 c195 c196 c197 c198 c199 c200 c201 c202 c203 c204 c205 c206 c207 c208 c209 c210 c211 c212 c213 c214 c215 c216 c217 c218 c219 c220 c221 c222 c223 c224 c225 c226 c227 c228 c229 c230 c231 c232 c233 c234 c235 c236 c237 c238 c239 c240 c241 c242 c243 c244 c245 c246 c247 c248 c249 c250 c251 c252 c253 c254 c255 c256 c257 c258 c259 c260 c261 c262 c263 c264 c265 c266 c267 c268 c269 c270 c271 c272 c273 c274 c275 c276 c277 c278 c279 c280 c281 c282 c283 c284 c285 c286 c287 c288 c289 c290 c291 c292 c293 c294 c295 c296 c297 c298 c299 c300 c301 c302 c303 c304 c305 c306 c307 c308 c309 c310 c311 c312 c313 c314 c315 c316 c317 c318 c319 c320 c321 c322 c323 c324 c325 c326 c327 c328 c329 c330 c331 c332 c333 c334 c335 c336 c337 c338 c339 c340 c341 c342 c343 c344 c345 c346 c347 c348 c349 c350 c351 c352 c353 c354 c355 c356 c357 c358 c359 c360 c361 c362 c363 c364 c365 c366 c367 c368 c369 c370 c371 c372 c373 c374 c375 : Value} {w wo Wb : World} {kr kn n3 cc3 : Nat} {a3 : Option Addr} {S : Nat → Option Slot} {R : Nat → Option Nat} {size bytes now : Int} {pre : List Wt} (hk : kr ≤ 255) (hk' : kn ≤ 255) (hnow : -2147483648 ≤ now ∧ now ≤ 2147483647) (hT : Tab w.heap.size w wo S R size bytes) (hRW : ∀ s e, s < 8 → S s = some e → ReadsW w e.a e.n e.ws) (hP : ReadsW w a3 n3 pre) (hn3 : n3 ≤ 1024)
    (hF0 : Fill wo n3 0 [] Wb) (code : Code) (hc : Yba.f3.body.bind (restOf 41) = some code) :
    Code.wp Yba.prog code (bodyPost Yba.prog Yba.f3 fun e w' => e = .returned (.bool true) ∧ Below w.heap.size w w') ⟨#[c0, .int .u8 kr, .int .u8 kn, .slice a3 n3 cc3, .int .i32 now, .int .i64 size, .int .i64 bytes, c7, c8, c9, c10, c11, c12, c13, c14, c15, .pointer (some ⟨w.heap.size, 0, none⟩), .pointer (some ⟨w.heap.size + 1, 0, none⟩), .pointer (some ⟨w.heap.size + 2, 0, none⟩), .pointer (some ⟨w.heap.size + 3, 0, none⟩), .pointer (some ⟨w.heap.size + 4, 0, none⟩), .pointer (some ⟨w.heap.size + 7, 0, none⟩), c22, c23, c24, c25, c26, c27, c28, c29, c30, c31, .slice (some ⟨wo.heap.size, 0, none⟩) 0 n3, c33, c34, c35, c36, c37, c38, c39, c40, c41, c42, c43, c44, c45, c46, c47, c48, c49, c50, c51, c52, c53, c54, c55, c56, c57, c58, c59, c60, c61, c62, c63, c64, c65, c66, c67, c68, c69, c70, c71, c72, c73, c74, c75, c76, c77, c78, c79, c80, c81, c82, c83, c84, c85, c86, c87, c88, c89, c90, c91, c92, c93, c94, c95, c96, c97, c98, c99, c100, c101, c102, c103, c104, c105, c106, c107, c108, c109, c110, c111, c112, c113, c114, c115, c116, c117, c118, c119, c120, c121, c122, c123, c124, c125, c126, c127, c128, c129, c130, c131, c132, c133, c134, c135, c136, c137, c138, c139, c140, c141, c142, c143, c144, c145, c146, c147, c148, c149, c150, c151, c152, c153, c154, c155, c156, c157, c158, c159, c160, c161, c162, c163, c164, c165, c166, c167, c168, c169, c170, c171, c172, c173, c174, c175, c176, c177, c178, c179, c180, c181, c182, c183, c184, c185, c186, c187, c188, c189, c190, c191, c192, c193, c194, c195, c196, c197, c198, c199, c200, c201, c202, c203, c204, c205, c206, c207, c208, c209, c210, c211, c212, c213, c214, c215, c216, c217, c218, c219, c220, c221, c222, c223, c224, c225, c226, c227, c228, c229, c230, c231, c232, c233, c234, c235, c236, c237, c238, c239, c240, c241, c242, c243, c244, c245, c246, c247, c248, c249, c250, c251, c252, c253, c254, c255, c256, c257, c258, c259, c260, c261, c262, c263, c264, c265, c266, c267, c268, c269, c270, c271, c272, c273, c274, c275, c276, c277, c278, c279, c280, c281, c282, c283, c284, c285, c286, c287, c288, c289, c290, c291, c292, c293, c294, c295, c296, c297, c298, c299, c300, c301, c302, c303, c304, c305, c306, c307, c308, c309, c310, c311, c312, c313, c314, c315, c316, c317, c318, c319, c320, c321, c322, c323, c324, c325, c326, c327, c328, c329, c330, c331, c332, c333, c334, c335, c336, c337, c338, c339, c340, c341, c342, c343, c344, c345, c346, c347, c348, c349, c350, c351, c352, c353, c354, c355, c356, c357, c358, c359, c360, c361, c362, c363, c364, c365, c366, c367, c368, c369, c370, c371, c372, c373, c374, c375], []⟩ Wb := by
  conv at hc => lhs; whnf
  cases hc
  obtain ⟨i0, hi, hz0, hz1, hz2⟩ := info_of info55
  have HT : Hid (Tab w.heap.size w wo S R size bytes) := hT
  have HRW : Hid (∀ s e, s < 8 → S s = some e → ReadsW w e.a e.n e.ws) := hRW
  have HP : Hid (ReadsW w a3 n3 pre) := hP
  have HF0 : Hid (Fill wo n3 0 [] Wb) := hF0
  clear hT hRW hP hF0
  dsimp only
  go_wp2_with fail
  go_loopw [32, 171] (fun v i wq => ∃ (j : Nat) (L : List Pend), j ≤ n3 ∧ i = .int .i64 j ∧ v = .slice (some ⟨wo.heap.size, 0, none⟩) j n3 ∧ L.map wtOf = pre.take j ∧ Fill wo n3 j L wq) (fun v i _ => n3 - (intOf i).toNat)
  case atStart => exact ⟨0, [], by omega, rfl, rfl, by simp, HF0.out⟩
  case round =>
    obtain ⟨wp, hwp⟩ : ∃ wp, wp = wr := ⟨_, rfl⟩
    subst hwp
    obtain ⟨j, L, hj, rfl, rfl, hL, hF⟩ := hrel
    have HL : Hid (L.map wtOf = pre.take j) := hL
    have HF : Hid (Fill wo n3 j L wp) := hF
    clear hL hF
    by_cases hjl : j < n3
    · obtain ⟨q', hq'⟩ : ∃ q', pre[j]? = some q' := ⟨_, List.getElem?_eq_getElem (by rw [HP.out.len]; exact hjl)⟩
      have HQ : Hid (pre[j]? = some q') := hq'
      have HBw : Hid (Below w.heap.size w wp) := HT.out.bel.trans (HF.out.bel.mono HT.out.bel.size)
      obtain ⟨b', o', ea, lb', x0, x1, x2, hx, hl⟩ := HP.out.at_ j q' hq'
      have y0 := (HBw.out.cell (p := ⟨b', o' + j * 3, none⟩) lb').trans x0
      have y1 := (HBw.out.cell (p := ⟨b', o' + j * 3 + 1, none⟩) lb').trans x1
      have y2 := (HBw.out.cell (p := ⟨b', o' + j * 3 + 2, none⟩) lb').trans x2
      have lbr' : b' < wp.heap.size := Nat.lt_of_lt_of_le lb' HBw.out.size
      subst ea
      clear x0 x1 x2 hq'
      go_wp2_with fail
      refine (apend q'.p q'.x q'.l _ hx hl).mono ?_
      rintro _ w2 ⟨g, rfl, hb2⟩
      have HF2 : Hid (Fill wo n3 j L w2) := HF.out.kept (((Below.refl _ _).alloc (Nat.le_refl _) _).trans (hb2.mono (by simp)))
      clear hb2
      go_wp2_with (at_builtin; go_must (refine wpList_append_own_spare _ rfl _ _ 40 rfl wo.heap.size 55 i0 8 Yba.underlying40 hi hz1 wo.heap.size j n3 (flat L) rfl (HF2.out.own.alloc _) ⟨w2.heap.size, 0, none⟩ 1 1 (Pend.cells ⟨q'.p, q'.x, q'.l, g⟩) rfl rfl (fun j u h => new_cell w2 _ 55 j u h) (fun u hu => flat_oneCell [⟨q'.p, q'.x, q'.l, g⟩] u (by simpa [flat] using hu)) (by omega) ?_); intro W3 hown3 hgr3)
      have HF3 : Hid (Fill wo n3 (j + 1) (L ++ [⟨q'.p, q'.x, q'.l, g⟩]) W3) := HF2.out.next hown3 hgr3
      have HL3 : Hid ((L ++ [(⟨q'.p, q'.x, q'.l, g⟩ : Pend)]).map wtOf = pre.take (j + 1)) := take_snoc_map HL.out HQ.out
      clear hown3 hgr3
      go_roundw
      case rel => exact ⟨j + 1, _, by omega, by go_num, rfl, HL3.out, HF3.out⟩
      case measure => simp [intOf]; omega
    · -- EXIT4
      obtain rfl : j = n3 := by omega
      have HLd : Hid (L.map wtOf = pre) := by
        have := HL.out
        rw [← HP.out.len, List.take_length] at this
        exact this
      have HLl : Hid (L.length = j) := by
        have := congrArg List.length HLd.out
        rw [List.length_map, HP.out.len] at this
        exact this
      have HBp : Hid (Below wo.heap.size wo wp) := HF.out.bel
      clear HF0
      go_upto_region 47 with fail
      have es : ((kr : Int) % 2 * 4 + (kn : Int) % 4) = ((kr % 2 * 4 + kn % 4 : Nat) : Int) := by omega
      rw [es]
      have hs : kr % 2 * 4 + kn % 4 < 8 := by omega
      clear es
      generalize kr % 2 * 4 + kn % 4 = ks at hs ⊢
      go_cut [36, 37] (fun v36 v37 wc => ∃ c, v37 = .int .i64 c ∧ Aft w.heap.size ks wo.heap.size w S R size bytes now L v36 c wc)
      case first =>
        rename_i J2 K2 hRJ hJK0
        have hJK : ∀ a w, J2 a w → K2 a w := fun a w h => hJK0 a w (Met.intro h)
        clear hJK0
        go_light
        have hTp := HT.out.kept HBp.out
        have cR : wp.cell? ⟨w.heap.size, ks / 4, none⟩ = some (.string (rS (ks / 4))) := by
          have : ks / 4 = 0 ∨ ks / 4 = 1 := by omega
          rcases this with e | e <;> simp [World.cell?, hTp.restr, e]
        have cN : wp.cell? ⟨w.heap.size + 1, ks % 4, none⟩ = some (.string (nS (ks % 4))) := by
          have : ks % 4 = 0 ∨ ks % 4 = 1 ∨ ks % 4 = 2 ∨ ks % 4 = 3 := by omega
          rcases this with e | e | e | e <;> simp [World.cell?, hTp.names, e]
        have lR := lt_heap hTp.restr
        have lN := lt_heap hTp.names
        have d4 : (ks : Int).tdiv 4 = ((ks / 4 : Nat) : Int) := by rw [Int.tdiv_eq_ediv_of_nonneg (by omega)]; omega
        have m4 : (ks : Int).tmod 4 = ((ks % 4 : Nat) : Int) := by rw [Int.tmod_eq_emod_of_nonneg (by omega)]; omega
        have hb4 : ks / 4 < 2 := by omega
        have hm4 : ks % 4 < 4 := by omega
        have hsi : (ks : Int) < 8 := by omega
        have hb4i : ((ks / 4 : Nat) : Int) < 2 := by omega
        have hm4i : ((ks % 4 : Nat) : Int) < 4 := by omega
        have hw4 : IntKind.i64.wrap ((ks : Int) / 4) = ((ks / 4 : Nat) : Int) := by
          simp only [IntKind.wrap, IntKind.bits, IntKind.signed]
          simp
          omega
        have hwm : IntKind.i64.wrap ((ks : Int) % 4) = ((ks % 4 : Nat) : Int) := by
          simp only [IntKind.wrap, IntKind.bits, IntKind.signed]
          simp
          omega
        have HQ4 : Hid ((ks : Int) / 4 = ((ks / 4 : Nat) : Int)) := by show _ = _; omega
        have HR4 : Hid ((ks : Int) % 4 = ((ks % 4 : Nat) : Int)) := by show _ = _; omega
        have hcv2 := fun w s => run_bytes_of_string (P := Yba.prog) w 9 53 5 s Yba.underlying9 Yba.underlying53 Yba.underlying5
        have hwn : IntKind.i64.wrap now = now := by
          simp only [IntKind.wrap, IntKind.bits, IntKind.signed]
          simp
          omega
        have HTK : Hid (∀ (W : World) (br bn cr cn : Nat), Below wp.heap.size wp W → Txt W br (rS (ks / 4)).data.toList → Txt W bn (nS (ks % 4)).data.toList → br < W.heap.size → bn < W.heap.size → Calls Yba.prog 7 #[.pointer (some ⟨w.heap.size + 7, 0, none⟩), .slice (some ⟨wo.heap.size, 0, none⟩) j j, .agg #[.slice (some ⟨br, 0, none⟩) (rS (ks / 4)).size cr, .slice (some ⟨bn, 0, none⟩) (nS (ks % 4)).size cn], .agg #[.int .u64 (now % 1000000000), .int .i64 (now / 1000000000), .pointer none]] W fun e w' => ∃ got c, e = .returned (.tuple #[got, .int .i64 c]) ∧ Aft w.heap.size ks wo.heap.size w S R size bytes now L got c w' ∧ W.heap.size ≤ w'.heap.size) := fun W br bn cr cn h1 h2 h3 h4 h5 => by
          refine HT.out.take hs (HBp.out.trans (h1.mono HBp.out.size)) ?_ (by rw [HLl.out]; exact hn3) h2 h3 h4 h5
          rw [HLl.out]
          exact owns_block HF.out.own (h1.block _ HF.out.lt)
        clear hTp
        refine wp_region_any (by kernel_rfl) ?_
        refine fr_start rfl rfl ?_
        intro C hC
        have c4 : C 4 = .int .i32 now := hC 4
        have c16 : C 16 = .pointer (some ⟨w.heap.size, 0, none⟩) := hC 16
        have c17 : C 17 = .pointer (some ⟨w.heap.size + 1, 0, none⟩) := hC 17
        have c21 : C 21 = .pointer (some ⟨w.heap.size + 7, 0, none⟩) := hC 21
        have c32 : C 32 = .slice (some ⟨wo.heap.size, 0, none⟩) j j := hC 32
        have c35 : C 35 = .int .i64 ks := hC 35
        refine wpAny_inv (down_of (by kernel_rfl)) (I47 C (rS (ks / 4)) (nS (ks % 4)) w.heap.size ks (ks / 4) (ks % 4) now (.slice (some ⟨wo.heap.size, 0, none⟩) j j) wp (fun got c W => Aft w.heap.size ks wo.heap.size w S R size bytes now L got c W)) ?_ ?_ _ _ _ _ (by simp) ?_ ?_
        · clear hC
          intro listed a W i o hI hs22 hL ho hdep
          obtain ⟨U, rfl, hv, hA, hB⟩ := hI.U
          have hi22 : i < 22 := (Array.getElem?_eq_some_iff.1 ho).1
          have HV : Hid (∀ j', j' < 16 → listed.getD j' false = true → valT (rS (ks / 4)) (nS (ks % 4)) w.heap.size ks (ks / 4) (ks % 4) now (.slice (some ⟨wo.heap.size, 0, none⟩) j j) j' (U (190 + j'))) := hv
          have HA : Hid (listed.getD 16 false = false → Ahead (rS (ks / 4)) (nS (ks % 4)) wp listed U W) := hA
          have HBh : Hid (listed.getD 16 false = true → Behind (fun got c W => Aft w.heap.size ks wo.heap.size w S R size bytes now L got c W) listed U W) := hB
          have HS : Hid (listed.size = 22 ∧ listed.getD i true = false) := ⟨hs22, hL⟩
          have cRW : W.cell? ⟨w.heap.size, ks / 4, none⟩ = some (.string (rS (ks / 4))) ∧ w.heap.size < W.heap.size := by
            cases h16 : listed.getD 16 false with
            | false => exact ⟨((hA h16).bel.cell (p := ⟨w.heap.size, ks / 4, none⟩) lR).trans cR, Nat.lt_of_lt_of_le lR (hA h16).bel.size⟩
            | true =>
              obtain ⟨got, c, x1, _, _⟩ := hB h16
              refine ⟨?_, lt_heap x1.restr⟩
              have : ks / 4 = 0 ∨ ks / 4 = 1 := by omega
              rcases this with e | e <;> simp [World.cell?, x1.restr, e]
          have cNW : W.cell? ⟨w.heap.size + 1, ks % 4, none⟩ = some (.string (nS (ks % 4))) ∧ w.heap.size + 1 < W.heap.size := by
            cases h16 : listed.getD 16 false with
            | false => exact ⟨((hA h16).bel.cell (p := ⟨w.heap.size + 1, ks % 4, none⟩) lN).trans cN, Nat.lt_of_lt_of_le lN (hA h16).bel.size⟩
            | true =>
              obtain ⟨got, c, x1, _, _⟩ := hB h16
              refine ⟨?_, lt_heap x1.names⟩
              have : ks % 4 = 0 ∨ ks % 4 = 1 ∨ ks % 4 = 2 ∨ ks % 4 = 3 := by omega
              rcases this with e | e | e | e <;> simp [World.cell?, x1.names, e]
          obtain ⟨cRW, lRW⟩ := cRW
          obtain ⟨cNW, lNW⟩ := cNW
          have HAK : Hid (∀ got c W W', Aft w.heap.size ks wo.heap.size w S R size bytes now L got c W → Below W.heap.size W W' → Aft w.heap.size ks wo.heap.size w S R size bytes now L got c W') := fun _ _ _ _ h hb => h.kept hb
          clear hv hA hB hs22 hL hI cR cN lR lN
          have : i = 0 ∨ i = 1 ∨ i = 2 ∨ i = 3 ∨ i = 4 ∨ i = 5 ∨ i = 6 ∨ i = 7 ∨ i = 8 ∨ i = 9 ∨ i = 10 ∨ i = 11 ∨ i = 12 ∨ i = 13 ∨ i = 14 ∨ i = 15 ∨ i = 16 ∨ i = 17 ∨ i = 18 ∨ i = 19 ∨ i = 20 ∨ i = 21 := by omega
          rcases this with rfl | rfl | rfl | rfl | rfl | rfl | rfl | rfl | rfl | rfl | rfl | rfl | rfl | rfl | rfl | rfl | rfl | rfl | rfl | rfl | rfl | rfl
          all_goals
            refine wpOp_step ho fun K1 hK0 => ?_
            have hK : Hid (∀ a w_1, I47 C (rS (ks / 4)) (nS (ks % 4)) w.heap.size ks (ks / 4) (ks % 4) now (.slice (some ⟨wo.heap.size, 0, none⟩) j j) wp (fun got c W => Aft w.heap.size ks wo.heap.size w S R size bytes now L got c W) (listed.setIfInBounds _ true) a w_1 → K1 a w_1) := hK0
            clear hK0
            simp at ho
            subst ho
          · have v32 : (fr C U).tmps.getD 32 undef = .slice (some ⟨wo.heap.size, 0, none⟩) j j := c32
            clear hdep
            go_simp
            exact hK.out _ _ (I47.next HV.out HA.out HBh.out HAK.out (i := 0) (by omega) _ (by exact rfl) (Below.refl _ _) (fun h => by cases h) (fun h => by cases h) (fun h => by cases h) (fr_set C U _ (by omega)))
          · have v35 : (fr C U).tmps.getD 35 undef = .int .i64 ks := c35
            clear hdep
            go_simp
            exact hK.out _ _ (I47.next HV.out HA.out HBh.out HAK.out (i := 1) (by omega) _ (by exact rfl) (Below.refl _ _) (fun h => by cases h) (fun h => by cases h) (fun h => by cases h) (fr_set C U _ (by omega)))
          · have v191 : (fr C U).tmps.getD 191 undef = .int .i64 ks := HV.out 1 (by omega) (hdep ⟨1, .data⟩ (by simp) (by decide))
            clear hdep
            go_simp
            rw [HQ4.out]
            exact hK.out _ _ (I47.next HV.out HA.out HBh.out HAK.out (i := 2) (by omega) _ (by exact rfl) (Below.refl _ _) (fun h => by cases h) (fun h => by cases h) (fun h => by cases h) (fr_set C U _ (by omega)))
          · have v16 : (fr C U).tmps.getD 16 undef = .pointer (some ⟨w.heap.size, 0, none⟩) := c16
            have v192 : (fr C U).tmps.getD 192 undef = .int .i64 ((ks / 4 : Nat) : Int) := HV.out 2 (by omega) (hdep ⟨2, .data⟩ (by simp) (by decide))
            clear hdep
            go_simp
            rw [if_pos ⟨by omega, by omega⟩, show ((ks : Int) / 4).toNat = ks / 4 from by omega]
            go_simp
            exact hK.out _ _ (I47.next HV.out HA.out HBh.out HAK.out (i := 3) (by omega) _ (by exact rfl) (Below.refl _ _) (fun h => by cases h) (fun h => by cases h) (fun h => by cases h) (fr_set C U _ (by omega)))
          · have v193 : (fr C U).tmps.getD 193 undef = .pointer (some ⟨w.heap.size, ks / 4, none⟩) := HV.out 3 (by omega) (hdep ⟨3, .data⟩ (by simp) (by decide))
            clear hdep
            go_simp
            exact hK.out _ _ (I47.next HV.out HA.out HBh.out HAK.out (i := 4) (by omega) _ (by exact rfl) (Below.refl _ _) (fun h => by cases h) (fun h => by cases h) (fun h => by cases h) (fr_set C U _ (by omega)))
          · have v194 : (fr C U).tmps.getD 194 undef = .string (rS (ks / 4)) := HV.out 4 (by omega) (hdep ⟨4, .data⟩ (by simp) (by decide))
            clear hdep
            go_simp
            exact hK.out _ _ (I47.next HV.out HA.out HBh.out HAK.out (i := 5) (by omega) _ (by exact ⟨_, _, rfl⟩) ((Below.refl _ _).drew.alloc (Nat.le_refl _) _) (fun _ br cr hu => by cases hu; exact ⟨txt_new rfl, by simp⟩) (fun h => by cases h) (fun h => by cases h) (fr_set C U _ (by omega)))
          · have v35 : (fr C U).tmps.getD 35 undef = .int .i64 ks := c35
            clear hdep
            go_simp
            exact hK.out _ _ (I47.next HV.out HA.out HBh.out HAK.out (i := 6) (by omega) _ (by exact rfl) (Below.refl _ _) (fun h => by cases h) (fun h => by cases h) (fun h => by cases h) (fr_set C U _ (by omega)))
          · have v196 : (fr C U).tmps.getD 196 undef = .int .i64 ks := HV.out 6 (by omega) (hdep ⟨6, .data⟩ (by simp) (by decide))
            clear hdep
            go_simp
            rw [HR4.out]
            exact hK.out _ _ (I47.next HV.out HA.out HBh.out HAK.out (i := 7) (by omega) _ (by exact rfl) (Below.refl _ _) (fun h => by cases h) (fun h => by cases h) (fun h => by cases h) (fr_set C U _ (by omega)))
          · have v17 : (fr C U).tmps.getD 17 undef = .pointer (some ⟨w.heap.size + 1, 0, none⟩) := c17
            have v197 : (fr C U).tmps.getD 197 undef = .int .i64 ((ks % 4 : Nat) : Int) := HV.out 7 (by omega) (hdep ⟨7, .data⟩ (by simp) (by decide))
            clear hdep
            go_simp
            rw [if_pos ⟨by omega, by omega⟩, show ((ks : Int) % 4).toNat = ks % 4 from by omega]
            go_simp
            exact hK.out _ _ (I47.next HV.out HA.out HBh.out HAK.out (i := 8) (by omega) _ (by exact rfl) (Below.refl _ _) (fun h => by cases h) (fun h => by cases h) (fun h => by cases h) (fr_set C U _ (by omega)))
          · have v198 : (fr C U).tmps.getD 198 undef = .pointer (some ⟨w.heap.size + 1, ks % 4, none⟩) := HV.out 8 (by omega) (hdep ⟨8, .data⟩ (by simp) (by decide))
            clear hdep
            go_simp
            exact hK.out _ _ (I47.next HV.out HA.out HBh.out HAK.out (i := 9) (by omega) _ (by exact rfl) (Below.refl _ _) (fun h => by cases h) (fun h => by cases h) (fun h => by cases h) (fr_set C U _ (by omega)))
          · have v199 : (fr C U).tmps.getD 199 undef = .string (nS (ks % 4)) := HV.out 9 (by omega) (hdep ⟨9, .data⟩ (by simp) (by decide))
            clear hdep
            go_simp
            exact hK.out _ _ (I47.next HV.out HA.out HBh.out HAK.out (i := 10) (by omega) _ (by exact ⟨_, _, rfl⟩) ((Below.refl _ _).drew.alloc (Nat.le_refl _) _) (fun h => by cases h) (fun _ br cr hu => by cases hu; exact ⟨txt_new rfl, by simp⟩) (fun h => by cases h) (fr_set C U _ (by omega)))
          · obtain ⟨br, cr, v195⟩ : ∃ br cr, (fr C U).tmps.getD 195 undef = .slice (some ⟨br, 0, none⟩) (rS (ks / 4)).size cr := HV.out 5 (by omega) (hdep ⟨5, .data⟩ (by simp) (by decide))
            obtain ⟨bn, cn, v200⟩ : ∃ bn cn, (fr C U).tmps.getD 200 undef = .slice (some ⟨bn, 0, none⟩) (nS (ks % 4)).size cn := HV.out 10 (by omega) (hdep ⟨10, .data⟩ (by simp) (by decide))
            have HK2 : Hid (listed.getD 16 false = false → (Txt W br (rS (ks / 4)).data.toList ∧ br < W.heap.size) ∧ (Txt W bn (nS (ks % 4)).data.toList ∧ bn < W.heap.size)) := fun h0 => ⟨(HA.out h0).r (hdep ⟨5, .data⟩ (by simp) (by decide)) br cr v195, (HA.out h0).n (hdep ⟨10, .data⟩ (by simp) (by decide)) bn cn v200⟩
            have w195 : (fr C U).tmps[195]?.getD undef = .slice (some ⟨br, 0, none⟩) (rS (ks / 4)).size cr := v195
            have w200 : (fr C U).tmps[200]?.getD undef = .slice (some ⟨bn, 0, none⟩) (nS (ks % 4)).size cn := v200
            clear hdep
            go_simp
            exact hK.out _ _ (I47.next HV.out HA.out HBh.out HAK.out (i := 11) (by omega) (.agg #[.slice (some ⟨br, 0, none⟩) (rS (ks / 4)).size cr, .slice (some ⟨bn, 0, none⟩) (nS (ks % 4)).size cn]) (by exact ⟨br, cr, bn, cn, rfl⟩) (Below.refl _ _) (fun h => by cases h) (fun h => by cases h) (fun _ h0 br' cr' bn' cn' hu => by cases hu; exact HK2.out h0) (fr_set C U _ (by omega)))
          · clear hdep
            go_simp
            exact hK.out _ _ (I47.next HV.out HA.out HBh.out HAK.out (i := 12) (by omega) _ (by exact rfl) (Below.refl _ _) (fun h => by cases h) (fun h => by cases h) (fun h => by cases h) (fr_set C U _ (by omega)))
          · have v4 : (fr C U).tmps.getD 4 undef = .int .i32 now := c4
            clear hdep
            go_simp
            exact hK.out _ _ (I47.next HV.out HA.out HBh.out HAK.out (i := 13) (by omega) _ (by exact rfl) (Below.refl _ _) (fun h => by cases h) (fun h => by cases h) (fun h => by cases h) (fr_set C U _ (by omega)))
          · have v203 : (fr C U).tmps.getD 203 undef = .int .i32 now := HV.out 13 (by omega) (hdep ⟨13, .data⟩ (by simp) (by decide))
            clear hdep
            go_simp
            exact hK.out _ _ (I47.next HV.out HA.out HBh.out HAK.out (i := 14) (by omega) _ (by exact rfl) (Below.refl _ _) (fun h => by cases h) (fun h => by cases h) (fun h => by cases h) (fr_set C U _ (by omega)))
          · have v202 : (fr C U).tmps.getD 202 undef = .agg #[.int .u64 0, .int .i64 0, .pointer none] := HV.out 12 (by omega) (hdep ⟨12, .data⟩ (by simp) (by decide))
            have v204 : (fr C U).tmps.getD 204 undef = .int .i64 now := HV.out 14 (by omega) (hdep ⟨14, .data⟩ (by simp) (by decide))
            clear hdep
            go_simp
            refine (add' now _ hnow).mono ?_
            rintro _ w1 ⟨rfl, o1, o2, rfl⟩
            exact hK.out _ _ (I47.next HV.out HA.out HBh.out HAK.out (i := 15) (by omega) _ (by exact rfl) (((Below.refl _ _).alloc (Nat.le_refl _) o1).alloc (by simp) o2) (fun h => by cases h) (fun h => by cases h) (fun h => by cases h) (fr_set C U _ (by omega)))
          · have v21 : (fr C U).tmps.getD 21 undef = .pointer (some ⟨w.heap.size + 7, 0, none⟩) := c21
            have v190 : (fr C U).tmps.getD 190 undef = .slice (some ⟨wo.heap.size, 0, none⟩) j j := HV.out 0 (by omega) (hdep ⟨0, .data⟩ (by simp) (by decide))
            obtain ⟨br, cr, bn, cn, v201⟩ : ∃ br cr bn cn, (fr C U).tmps.getD 201 undef = .agg #[.slice (some ⟨br, 0, none⟩) (rS (ks / 4)).size cr, .slice (some ⟨bn, 0, none⟩) (nS (ks % 4)).size cn] := HV.out 11 (by omega) (hdep ⟨11, .data⟩ (by simp) (by decide))
            have v205 : (fr C U).tmps.getD 205 undef = .agg #[.int .u64 (now % 1000000000), .int .i64 (now / 1000000000), .pointer none] := HV.out 15 (by omega) (hdep ⟨15, .data⟩ (by simp) (by decide))
            have h0 : listed.getD 16 false = false := by
              have h1 := HS.out.1
              have h2 := HS.out.2
              rw [Array.getD_eq_getD_getElem?, Array.getElem?_eq_getElem (by omega)] at h2 ⊢
              exact h2
            have HAh : Hid (Ahead (rS (ks / 4)) (nS (ks % 4)) wp listed U W) := HA.out h0
            have HTx : Hid ((Txt W br (rS (ks / 4)).data.toList ∧ br < W.heap.size) ∧ (Txt W bn (nS (ks % 4)).data.toList ∧ bn < W.heap.size)) := HAh.out.k (hdep ⟨11, .data⟩ (by simp) (by decide)) br cr bn cn v201
            clear h0
            clear hdep
            go_simp
            refine (HTK.out W br bn cr cn HAh.out.bel HTx.out.1.1 HTx.out.2.1 HTx.out.1.2 HTx.out.2.2).mono ?_
            rintro _ w1 ⟨got, c, rfl, hA, -⟩
            exact hK.out _ _ (I47.call HV.out HS.out.1 HAh.out.late got c hA (fr_set C U _ (by omega)))
          · have hd : listed.getD 16 false = true := hdep ⟨16, .data⟩ (by simp) (by decide)
            have h16 : listed.getD 16 false = true := hd
            obtain ⟨got, c, x1, x2, x3⟩ := HBh.out h16
            have HX : Hid (Aft w.heap.size ks wo.heap.size w S R size bytes now L got c W ∧ listed.getD 16 false = true ∧ U 206 = .tuple #[got, .int .i64 c] ∧ ∀ i, 16 < i → i < 22 → listed.getD i false = true → U (lateS i) = lateV i got c) := ⟨x1, h16, x2, x3⟩
            have v206 : (fr C U).tmps.getD 206 undef = .tuple #[got, .int .i64 c] := x2
            clear hd h16 x1 x2 x3
            clear hdep
            go_simp
            exact hK.out _ _ (I47.after HV.out HX.out.2.1 HX.out.1 HX.out.2.2.1 HX.out.2.2.2 (i := 17) (by omega) (by omega) (fr_set C U _ (by decide)))
          · have hd : listed.getD 17 false = true := hdep ⟨17, .data⟩ (by simp) (by decide)
            have h16 : listed.getD 16 false = true := by
              cases h : listed.getD 16 false with
              | true => rfl
              | false => have := (HA.out h).late 17 (by omega); rw [hd] at this; cases this
            obtain ⟨got, c, x1, x2, x3⟩ := HBh.out h16
            have HX : Hid (Aft w.heap.size ks wo.heap.size w S R size bytes now L got c W ∧ listed.getD 16 false = true ∧ U 206 = .tuple #[got, .int .i64 c] ∧ ∀ i, 16 < i → i < 22 → listed.getD i false = true → U (lateS i) = lateV i got c) := ⟨x1, h16, x2, x3⟩
            have v189 : (fr C U).tmps.getD 189 undef = .tuple #[got, .int .i64 c] := x3 17 (by omega) (by omega) hd
            clear hd h16 x1 x2 x3
            clear hdep
            go_simp
            exact hK.out _ _ (I47.after HV.out HX.out.2.1 HX.out.1 HX.out.2.2.1 HX.out.2.2.2 (i := 18) (by omega) (by omega) (fr_set C U _ (by decide)))
          · have hd : listed.getD 17 false = true := hdep ⟨17, .data⟩ (by simp) (by decide)
            have h16 : listed.getD 16 false = true := by
              cases h : listed.getD 16 false with
              | true => rfl
              | false => have := (HA.out h).late 17 (by omega); rw [hd] at this; cases this
            obtain ⟨got, c, x1, x2, x3⟩ := HBh.out h16
            have HX : Hid (Aft w.heap.size ks wo.heap.size w S R size bytes now L got c W ∧ listed.getD 16 false = true ∧ U 206 = .tuple #[got, .int .i64 c] ∧ ∀ i, 16 < i → i < 22 → listed.getD i false = true → U (lateS i) = lateV i got c) := ⟨x1, h16, x2, x3⟩
            have v189 : (fr C U).tmps.getD 189 undef = .tuple #[got, .int .i64 c] := x3 17 (by omega) (by omega) hd
            clear hd h16 x1 x2 x3
            clear hdep
            go_simp
            exact hK.out _ _ (I47.after HV.out HX.out.2.1 HX.out.1 HX.out.2.2.1 HX.out.2.2.2 (i := 19) (by omega) (by omega) (fr_set C U _ (by decide)))
          · have hd : listed.getD 18 false = true := hdep ⟨18, .data⟩ (by simp) (by decide)
            have h16 : listed.getD 16 false = true := by
              cases h : listed.getD 16 false with
              | true => rfl
              | false => have := (HA.out h).late 18 (by omega); rw [hd] at this; cases this
            obtain ⟨got, c, x1, x2, x3⟩ := HBh.out h16
            have HX : Hid (Aft w.heap.size ks wo.heap.size w S R size bytes now L got c W ∧ listed.getD 16 false = true ∧ U 206 = .tuple #[got, .int .i64 c] ∧ ∀ i, 16 < i → i < 22 → listed.getD i false = true → U (lateS i) = lateV i got c) := ⟨x1, h16, x2, x3⟩
            have v207 : (fr C U).tmps.getD 207 undef = got := x3 18 (by omega) (by omega) hd
            clear hd h16 x1 x2 x3
            clear hdep
            go_simp
            exact hK.out _ _ (I47.after HV.out HX.out.2.1 HX.out.1 HX.out.2.2.1 HX.out.2.2.2 (i := 20) (by omega) (by omega) (fr_set C U _ (by decide)))
          · have hd : listed.getD 19 false = true := hdep ⟨19, .data⟩ (by simp) (by decide)
            have h16 : listed.getD 16 false = true := by
              cases h : listed.getD 16 false with
              | true => rfl
              | false => have := (HA.out h).late 19 (by omega); rw [hd] at this; cases this
            obtain ⟨got, c, x1, x2, x3⟩ := HBh.out h16
            have HX : Hid (Aft w.heap.size ks wo.heap.size w S R size bytes now L got c W ∧ listed.getD 16 false = true ∧ U 206 = .tuple #[got, .int .i64 c] ∧ ∀ i, 16 < i → i < 22 → listed.getD i false = true → U (lateS i) = lateV i got c) := ⟨x1, h16, x2, x3⟩
            have v208 : (fr C U).tmps.getD 208 undef = .int .i64 c := x3 19 (by omega) (by omega) hd
            clear hd h16 x1 x2 x3
            clear hdep
            go_simp
            exact hK.out _ _ (I47.after HV.out HX.out.2.1 HX.out.1 HX.out.2.2.1 HX.out.2.2.2 (i := 21) (by omega) (by omega) (fr_set C U _ (by decide)))
        · intro listed a W hI hall
          obtain ⟨U, rfl, hv, -, hB⟩ := hI.U
          obtain ⟨got, c, hA, h206, hl⟩ := hB (hall 16 (by simp))
          have e36 : U 36 = got := hl 20 (by omega) (by omega) (hall 20 (by simp))
          have e37 : U 37 = .int .i64 c := hl 21 (by omega) (by omega) (hall 21 (by simp))
          have HA : Hid (∃ c, U 37 = .int .i64 c ∧ Aft w.heap.size ks wo.heap.size w S R size bytes now L (U 36) c W) := ⟨c, e37, by rw [e36]; exact hA⟩
          obtain rfl : C = _ := funext hC
          clear hv hB hl h206 e36 e37 hA hall hI hcv2 cR cN c4 c16 c17 c21 c32 c35
          show K2 _ _
          refine hJK _ _ (hRJ _ _ ?_)
          repeat apply Exists.intro
          exact ⟨HA.out, rfl⟩
        · decide
        · refine ⟨C, rfl, fun j hj hL => ?_, fun _ => ⟨(Below.refl _ _).drew, fun hL => ?_, fun hL => ?_, fun j hj => by simp [Array.getD], fun hL => ?_⟩, fun hL => ?_⟩
          all_goals
            exfalso
            simp [Array.getD] at hL
      case rest =>
        rename_i K9 hK9
        obtain ⟨c, rfl, hA⟩ := hcut
        refine hK9 _ _ ?_
        exact part3 hs HT.out HRW.out HP.out hn3 HLd.out hA _ rfl
end Go.Proofs.Ybulkcfbe.tab
