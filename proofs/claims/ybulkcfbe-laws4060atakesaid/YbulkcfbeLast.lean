/- The law's end: the eight places. -/
import Derived.Test.YbulkcfbeEnd
import Derived.Deep.Light
import Derived.Deep.CutBlock
namespace Go.Proofs.Ybulkcfbe.tab
open Go.ChangeShapes Go.WideShapes Go.ChangeAt Go.RowKit
open Go.Proofs.Ybulkcfbe.tm Go.Proofs.Ybulkcfbe.sm Go.Proofs.Ybulkcfbe.pd Go.Proofs.Ybulkcfbe.inv
open Go.ChangeMaps (setBlock)
set_option linter.unusedVariables false
set_option maxRecDepth 100000 in
set_option maxHeartbeats 6400000 in
theorem part5 {c0 c1 c2 c3 c4 c5 c6 c7 c8 c9 c10 c11 c12 c13 c14 c15 c22 c23 c24 c25 c26 c27 c28 c29 c30 c31 c32 c33 c34 c36 c37 c38 c39 c40 c41 c42 c43 c44 c45 c46 c47 c48 c49 c50 c51 c52 c53 c54 c55 c56 c57 c58 c59 c60 c61 c62 c63 c64 c65 c66 c67 c68 c69 c70 c71 c72 c73 c74 c75 c76 c77 c78 c79 c80 c81 c82 c83 c84 c85 c86 c87 c88 c89 c90 c91 c92 c93 c94 c95 c96 c97 c98 c99 c100 c101 c102 c103 c104 c105 c106 c107 c108 c109 c110 c111 c112 c113 c114 c115 c116 c117 c118 c119 c120 c121 c122 c123 c124 c125 c126 c127 c128 c129 c130 c131 c132 c133 c134 c135 c136 c137 c138 c139 c140 c141 c142 c143 c144 c145 c146 c147 c148 c149 c150 c151 c152 c153 c154 c155 c156 c157 c158 c159 c160 c161 c162 c163 c164 c165 c166 c167 c168 c169 c170 c171 c172 c173 c174 c175 c176 c177 c178 c179 c180 c181 c182 c183 c184 c185 c186 c187 c188 c189 c190 c191 c192 c193 c194 c195 c196 c197 c198 c199 c200 c201 c202 c203 c204 c205 c206 c207 c208 c209 c210 c211 c212 c213 c214 c215 c216 c217 c218 c219 c220 c221 c222 c223 c224 c225 c226 c227 c228 c229 c230 c231 c232 c233 c234 c235 c236 c237 c238 c239 c240 c241 c242 c243 c244 c245 c246 c247 c248 c249 c250 c251 c252 c253 c254 c255 c256 c257 c258 c259 c260 c261 c262 c263 c264 c265 c266 c267 c268 c269 c270 c271 c272 c273 c274 c275 c276 c277 c278 c279 c280 c281 c282 c283 c284 c285 c286 c287 c288 c289 c290 c291 c292 c293 c294 c295 c296 c297 c298 c299 c300 c301 c302 c303 c304 c305 c306 c307 c308 c309 c310 c311 c312 c313 c314 c315 c316 c317 c318 c319 c320 c321 c322 c323 c324 c325 c326 c327 c328 c329 c330 c331 c332 c333 c334 c335 c336 c337 c338 c339 c340 c341 c342 c343 c344 c345 c346 c347 c348 c349 c350 c351 c352 c353 c354 c355 c356 c357 c358 c359 c360 c361 c362 c363 c364 c365 c366 c367 c368 c369 c370 c371 c372 c373 c374 c375 : Value} {w wf : World} {ks base : Nat} {S : Nat → Option Slot} {R : Nat → Option Nat} {size bytes now c : Int} {L : List Pend} {got : Value} (hs : ks < 8) (hA : Aft w.heap.size ks base w S R size bytes now L got c wf) (code : Code) (hc : Yba.f3.body.bind (restOf 69) = some code) :
    Code.wp Yba.prog code (bodyPost Yba.prog Yba.f3 fun e w' => e = .returned (.bool true) ∧ Below w.heap.size w w') ⟨#[c0, c1, c2, c3, c4, c5, c6, c7, c8, c9, c10, c11, c12, c13, c14, c15, .pointer (some ⟨w.heap.size, 0, none⟩), .pointer (some ⟨w.heap.size + 1, 0, none⟩), .pointer (some ⟨w.heap.size + 2, 0, none⟩), .pointer (some ⟨w.heap.size + 3, 0, none⟩), .pointer (some ⟨w.heap.size + 4, 0, none⟩), .pointer (some ⟨w.heap.size + 7, 0, none⟩), c22, c23, c24, c25, c26, c27, c28, c29, c30, c31, c32, c33, c34, .int .i64 ks, c36, c37, c38, c39, c40, c41, c42, c43, c44, c45, c46, c47, c48, c49, c50, c51, c52, c53, c54, c55, c56, c57, c58, c59, c60, c61, c62, c63, c64, c65, c66, c67, c68, c69, c70, c71, c72, c73, c74, c75, c76, c77, c78, c79, c80, c81, c82, c83, c84, c85, c86, c87, c88, c89, c90, c91, c92, c93, c94, c95, c96, c97, c98, c99, c100, c101, c102, c103, c104, c105, c106, c107, c108, c109, c110, c111, c112, c113, c114, c115, c116, c117, c118, c119, c120, c121, c122, c123, c124, c125, c126, c127, c128, c129, c130, c131, c132, c133, c134, c135, c136, c137, c138, c139, c140, c141, c142, c143, c144, c145, c146, c147, c148, c149, c150, c151, c152, c153, c154, c155, c156, c157, c158, c159, c160, c161, c162, c163, c164, c165, c166, c167, c168, c169, c170, c171, c172, c173, c174, c175, c176, c177, c178, c179, c180, c181, c182, c183, c184, c185, c186, c187, c188, c189, c190, c191, c192, c193, c194, c195, c196, c197, c198, c199, c200, c201, c202, c203, c204, c205, c206, c207, c208, c209, c210, c211, c212, c213, c214, c215, c216, c217, c218, c219, c220, c221, c222, c223, c224, c225, c226, c227, c228, c229, c230, c231, c232, c233, c234, c235, c236, c237, c238, c239, c240, c241, c242, c243, c244, c245, c246, c247, c248, c249, c250, c251, c252, c253, c254, c255, c256, c257, c258, c259, c260, c261, c262, c263, c264, c265, c266, c267, c268, c269, c270, c271, c272, c273, c274, c275, c276, c277, c278, c279, c280, c281, c282, c283, c284, c285, c286, c287, c288, c289, c290, c291, c292, c293, c294, c295, c296, c297, c298, c299, c300, c301, c302, c303, c304, c305, c306, c307, c308, c309, c310, c311, c312, c313, c314, c315, c316, c317, c318, c319, c320, c321, c322, c323, c324, c325, c326, c327, c328, c329, c330, c331, c332, c333, c334, c335, c336, c337, c338, c339, c340, c341, c342, c343, c344, c345, c346, c347, c348, c349, c350, c351, c352, c353, c354, c355, c356, c357, c358, c359, c360, c361, c362, c363, c364, c365, c366, c367, c368, c369, c370, c371, c372, c373, c374, c375], []⟩ wf := by
  conv at hc => lhs; whnf
  cases hc
  have HA : Hid (Aft w.heap.size ks base w S R size bytes now L got c wf) := hA
  clear hA
  go_upto_block 12 with fail
  go_cut [] (fun wx => Below wf.heap.size wf wx)
  case rest =>
    rename_i K9 hK9
    refine hK9 _ _ ?_
    exact part6 hs (HA.out.kept hcut) _ rfl
  case first =>
    go_wp2_with fail
    go_loopw [46] (fun i wq => ∃ k : Nat, k ≤ 8 ∧ i = .int .i64 k ∧ Below wf.heap.size wf wq) (fun i _ => 8 - (intOf i).toNat)
    case atStart => exact ⟨0, by omega, rfl, Below.refl _ _⟩
    case round =>
      obtain ⟨wq, hwq⟩ : ∃ wq, wq = wr := ⟨_, rfl⟩
      subst hwq
      obtain ⟨k, hk1, rfl, hbq⟩ := hrel
      have hAq := HA.out.kept hbq
      have HBq : Hid (Below wf.heap.size wf wq) := hbq
      clear hbq
      by_cases hlk : k < 8
      · have hki : (k : Int) < 8 := by omega
        have c7 : wq.cell? ⟨w.heap.size + 7, 0, none⟩ = some (.map (some (w.heap.size + 5))) := by simp [World.cell?, hAq.t, pitC]
        have cR : wq.cell? ⟨w.heap.size, k / 4, none⟩ = some (.string (rS (k / 4))) := by
          have : k / 4 = 0 ∨ k / 4 = 1 := by omega
          rcases this with e | e <;> simp [World.cell?, hAq.restr, e]
        have cN : wq.cell? ⟨w.heap.size + 1, k % 4, none⟩ = some (.string (nS (k % 4))) := by
          have : k % 4 = 0 ∨ k % 4 = 1 ∨ k % 4 = 2 ∨ k % 4 = 3 := by omega
          rcases this with e | e | e | e <;> simp [World.cell?, hAq.names, e]
        have l7 := lt_heap hAq.t
        have lR := lt_heap hAq.restr
        have lN := lt_heap hAq.names
        have d4 : (k : Int).tdiv 4 = ((k / 4 : Nat) : Int) := by rw [Int.tdiv_eq_ediv_of_nonneg (by omega)]; omega
        have m4 : (k : Int).tmod 4 = ((k % 4 : Nat) : Int) := by rw [Int.tmod_eq_emod_of_nonneg (by omega)]; omega
        have hb4 : k / 4 < 2 := by omega
        have hm4 : k % 4 < 4 := by omega
        have hw4 : IntKind.i64.wrap ((k : Int) / 4) = ((k / 4 : Nat) : Int) := by
          simp only [IntKind.wrap, IntKind.bits, IntKind.signed]
          simp
          omega
        have hwm : IntKind.i64.wrap ((k : Int) % 4) = ((k % 4 : Nat) : Int) := by
          simp only [IntKind.wrap, IntKind.bits, IntKind.signed]
          simp
          omega
        have HQ4 : Hid ((k : Int) / 4 = ((k / 4 : Nat) : Int)) := by show _ = _; omega
        have HR4 : Hid ((k : Int) % 4 = ((k % 4 : Nat) : Int)) := by show _ = _; omega
        obtain ⟨nv, ea, em, ec, ern, hL1, hL2⟩ := hAq.look hlk
        obtain ⟨okv, hokv⟩ : ∃ okv, okv = ((S k).isSome && decide (k ≠ ks)) := ⟨_, rfl⟩
        rw [← hokv] at hL2
        have HOK : Hid (okv = ((S k).isSome && decide (k ≠ ks))) := hokv
        have HL1 : Hid (∀ W', Below wq.heap.size wq W' → (Instr.lookup 30 (.map (some (w.heap.size + 5))) (.string (rS (k / 4))) false).run Yba.prog W' = .ok nv W') := hL1
        have HL2 : Hid (∀ W', Below wq.heap.size wq W' → (Instr.lookup 61 nv (.string (nS (k % 4))) true).run Yba.prog W' = .ok (.tuple #[.agg #[.slice ea em ec, .int .u8 0, .slice none 0 0, .string ern], .bool okv]) W') := hL2
        clear hAq hL1 hL2 hokv
        go_upto_region 72 with fail
        go_cut [48] (fun v48 wy => v48 = .bool okv ∧ Below wf.heap.size wf wy)
        case first =>
          rename_i J2 K2 hRJ hJK0
          have hJK : ∀ a w, J2 a w → K2 a w := fun a w h => hJK0 a w (Met.intro h)
          clear hJK0
          go_light
          refine wp_region_any (by kernel_rfl) ?_
          refine fr72_start rfl rfl ?_
          intro C hC
          have c21 : C 21 = .pointer (some ⟨w.heap.size + 7, 0, none⟩) := hC 21
          have c46 : C 46 = .int .i64 k := hC 46
          have c16 : C 16 = .pointer (some ⟨w.heap.size, 0, none⟩) := hC 16
          have c17 : C 17 = .pointer (some ⟨w.heap.size + 1, 0, none⟩) := hC 17
          refine wpAny_inv (down_of (by kernel_rfl)) (KnownB fr72 sl72 18 (val72 w.heap.size k nv (.agg #[.slice ea em ec, .int .u8 0, .slice none 0 0, .string ern]) okv) C wq 15 59 4) ?_ ?_ _ _ _ _ (by simp) ?_ ?_
          · clear hC
            intro listed a W i o hI hsz hL ho hdep
            obtain ⟨U, rfl, hv, hB, hx⟩ := hI.U
            have hin : i < 18 := (Array.getElem?_eq_some_iff.1 ho).1
            have HV : Hid (∀ j, j < 18 → listed.getD j false = true → (val72 w.heap.size k nv (.agg #[.slice ea em ec, .int .u8 0, .slice none 0 0, .string ern]) okv) j (U (sl72 j))) := hv
            have HB : Hid (Below (wq).heap.size (wq) W) := hB
            have HX : Hid (listed.getD 15 false = true → ∃ b c, U (sl72 15) = .pointer (some ⟨b, 0, none⟩) ∧ wq.heap.size ≤ b ∧ W.heap[b]? = some (.cells c 59 (0, 0)) ∧ c.size = 4) := hx
            have d7 := (hB.cell (p := ⟨w.heap.size + 7, 0, none⟩) l7).trans c7
            have dR := (hB.cell (p := ⟨w.heap.size, k / 4, none⟩) lR).trans cR
            have dN := (hB.cell (p := ⟨w.heap.size + 1, k % 4, none⟩) lN).trans cN
            have lW := Nat.lt_of_lt_of_le l7 hB.size
            have lW0 := Nat.lt_of_lt_of_le lR hB.size
            have lW1 := Nat.lt_of_lt_of_le lN hB.size
            have hl1 := HL1.out W hB
            have hl2 := HL2.out W hB
            clear c7 cR cN l7 lR lN
            clear hv hB hx hsz hL hI
            have : i = 0 ∨ i = 1 ∨ i = 2 ∨ i = 3 ∨ i = 4 ∨ i = 5 ∨ i = 6 ∨ i = 7 ∨ i = 8 ∨ i = 9 ∨ i = 10 ∨ i = 11 ∨ i = 12 ∨ i = 13 ∨ i = 14 ∨ i = 15 ∨ i = 16 ∨ i = 17 := by omega
            rcases this with rfl | rfl | rfl | rfl | rfl | rfl | rfl | rfl | rfl | rfl | rfl | rfl | rfl | rfl | rfl | rfl | rfl | rfl
            all_goals
              refine wpOp_step ho fun K1 hK0 => ?_
              have hK : Hid (∀ a w_1, KnownB fr72 sl72 18 (val72 w.heap.size k nv (.agg #[.slice ea em ec, .int .u8 0, .slice none 0 0, .string ern]) okv) C wq 15 59 4 (listed.setIfInBounds _ true) a w_1 → K1 a w_1) := hK0
              clear hK0
              simp at ho
              subst ho
            · have v21 : (fr72 C U).tmps.getD 21 undef = .pointer (some ⟨w.heap.size + 7, 0, none⟩) := c21
              clear hdep
              go_simp
              exact hK.out _ _ (KnownB.next HV.out HB.out HX.out (i := 0) (by omega) (by decide) (by omega) _ (by exact rfl) (Below.refl _ _) (fr72_set C U _ (by decide)))
            · have v310 : (fr72 C U).tmps.getD 310 undef = .pointer (some ⟨w.heap.size + 7, 0, none⟩) := HV.out 0 (by omega) (hdep ⟨0, .data⟩ (by simp) (by decide))
              clear hdep
              go_simp
              exact hK.out _ _ (KnownB.next HV.out HB.out HX.out (i := 1) (by omega) (by decide) (by omega) _ (by exact rfl) (Below.refl _ _) (fr72_set C U _ (by decide)))
            · have v46 : (fr72 C U).tmps.getD 46 undef = .int .i64 k := c46
              clear hdep
              go_simp
              exact hK.out _ _ (KnownB.next HV.out HB.out HX.out (i := 2) (by omega) (by decide) (by omega) _ (by exact rfl) (Below.refl _ _) (fr72_set C U _ (by decide)))
            · have v312 : (fr72 C U).tmps.getD 312 undef = .int .i64 k := HV.out 2 (by omega) (hdep ⟨2, .data⟩ (by simp) (by decide))
              clear hdep
              go_simp
              rw [HQ4.out]
              exact hK.out _ _ (KnownB.next HV.out HB.out HX.out (i := 3) (by omega) (by decide) (by omega) _ (by exact rfl) (Below.refl _ _) (fr72_set C U _ (by decide)))
            · have v16 : (fr72 C U).tmps.getD 16 undef = .pointer (some ⟨w.heap.size, 0, none⟩) := c16
              have v313 : (fr72 C U).tmps.getD 313 undef = .int .i64 ((k / 4 : Nat) : Int) := HV.out 3 (by omega) (hdep ⟨3, .data⟩ (by simp) (by decide))
              clear hdep
              go_simp
              rw [if_pos ⟨by omega, by omega⟩, show ((k : Int) / 4).toNat = k / 4 from by omega]
              go_simp
              exact hK.out _ _ (KnownB.next HV.out HB.out HX.out (i := 4) (by omega) (by decide) (by omega) _ (by exact rfl) (Below.refl _ _) (fr72_set C U _ (by decide)))
            · have v314 : (fr72 C U).tmps.getD 314 undef = .pointer (some ⟨w.heap.size, k / 4, none⟩) := HV.out 4 (by omega) (hdep ⟨4, .data⟩ (by simp) (by decide))
              clear hdep
              go_simp
              exact hK.out _ _ (KnownB.next HV.out HB.out HX.out (i := 5) (by omega) (by decide) (by omega) _ (by exact rfl) (Below.refl _ _) (fr72_set C U _ (by decide)))
            · have v311 : (fr72 C U).tmps.getD 311 undef = .map (some (w.heap.size + 5)) := HV.out 1 (by omega) (hdep ⟨1, .data⟩ (by simp) (by decide))
              have v315 : (fr72 C U).tmps.getD 315 undef = .string (rS (k / 4)) := HV.out 5 (by omega) (hdep ⟨5, .data⟩ (by simp) (by decide))
              clear hdep
              go_simp
              exact hK.out _ _ (KnownB.next HV.out HB.out HX.out (i := 6) (by omega) (by decide) (by omega) _ (by exact rfl) (Below.refl _ _) (fr72_set C U _ (by decide)))
            · have v46 : (fr72 C U).tmps.getD 46 undef = .int .i64 k := c46
              clear hdep
              go_simp
              exact hK.out _ _ (KnownB.next HV.out HB.out HX.out (i := 7) (by omega) (by decide) (by omega) _ (by exact rfl) (Below.refl _ _) (fr72_set C U _ (by decide)))
            · have v317 : (fr72 C U).tmps.getD 317 undef = .int .i64 k := HV.out 7 (by omega) (hdep ⟨7, .data⟩ (by simp) (by decide))
              clear hdep
              go_simp
              rw [HR4.out]
              exact hK.out _ _ (KnownB.next HV.out HB.out HX.out (i := 8) (by omega) (by decide) (by omega) _ (by exact rfl) (Below.refl _ _) (fr72_set C U _ (by decide)))
            · have v17 : (fr72 C U).tmps.getD 17 undef = .pointer (some ⟨w.heap.size + 1, 0, none⟩) := c17
              have v318 : (fr72 C U).tmps.getD 318 undef = .int .i64 ((k % 4 : Nat) : Int) := HV.out 8 (by omega) (hdep ⟨8, .data⟩ (by simp) (by decide))
              clear hdep
              go_simp
              rw [if_pos ⟨by omega, by omega⟩, show ((k : Int) % 4).toNat = k % 4 from by omega]
              go_simp
              exact hK.out _ _ (KnownB.next HV.out HB.out HX.out (i := 9) (by omega) (by decide) (by omega) _ (by exact rfl) (Below.refl _ _) (fr72_set C U _ (by decide)))
            · have v319 : (fr72 C U).tmps.getD 319 undef = .pointer (some ⟨w.heap.size + 1, k % 4, none⟩) := HV.out 9 (by omega) (hdep ⟨9, .data⟩ (by simp) (by decide))
              clear hdep
              go_simp
              exact hK.out _ _ (KnownB.next HV.out HB.out HX.out (i := 10) (by omega) (by decide) (by omega) _ (by exact rfl) (Below.refl _ _) (fr72_set C U _ (by decide)))
            · have v316 : (fr72 C U).tmps.getD 316 undef = nv := HV.out 6 (by omega) (hdep ⟨6, .data⟩ (by simp) (by decide))
              have v320 : (fr72 C U).tmps.getD 320 undef = .string (nS (k % 4)) := HV.out 10 (by omega) (hdep ⟨10, .data⟩ (by simp) (by decide))
              clear hdep
              go_simp
              exact hK.out _ _ (KnownB.next HV.out HB.out HX.out (i := 11) (by omega) (by decide) (by omega) _ (by exact rfl) (Below.refl _ _) (fr72_set C U _ (by decide)))
            · have v321 : (fr72 C U).tmps.getD 321 undef = .tuple #[.agg #[.slice ea em ec, .int .u8 0, .slice none 0 0, .string ern], .bool okv] := HV.out 11 (by omega) (hdep ⟨11, .data⟩ (by simp) (by decide))
              clear hdep
              go_simp
              exact hK.out _ _ (KnownB.next HV.out HB.out HX.out (i := 12) (by omega) (by decide) (by omega) _ (by exact rfl) (Below.refl _ _) (fr72_set C U _ (by decide)))
            · have v309 : (fr72 C U).tmps.getD 309 undef = .tuple #[.agg #[.slice ea em ec, .int .u8 0, .slice none 0 0, .string ern], .bool okv] := HV.out 12 (by omega) (hdep ⟨12, .data⟩ (by simp) (by decide))
              clear hdep
              go_simp
              exact hK.out _ _ (KnownB.next HV.out HB.out HX.out (i := 13) (by omega) (by decide) (by omega) _ (by exact rfl) (Below.refl _ _) (fr72_set C U _ (by decide)))
            · have v309 : (fr72 C U).tmps.getD 309 undef = .tuple #[.agg #[.slice ea em ec, .int .u8 0, .slice none 0 0, .string ern], .bool okv] := HV.out 12 (by omega) (hdep ⟨12, .data⟩ (by simp) (by decide))
              clear hdep
              go_simp
              exact hK.out _ _ (KnownB.next HV.out HB.out HX.out (i := 14) (by omega) (by decide) (by omega) _ (by exact rfl) (Below.refl _ _) (fr72_set C U _ (by decide)))
            · clear hdep
              go_simp
              exact hK.out _ _ (KnownB.alloc HV.out HB.out (by decide) (by exact (rfl : (#[Value.slice none 0 0, Value.int .u8 0, Value.slice none 0 0, Value.string ⟨#[]⟩] : Array Value).size = 4)) (by exact trivial) (fr72_set C U _ (by decide)))
            · have v322 : (fr72 C U).tmps.getD 322 undef = .agg #[.slice ea em ec, .int .u8 0, .slice none 0 0, .string ern] := HV.out 13 (by omega) (hdep ⟨13, .data⟩ (by simp) (by decide))
              obtain ⟨b, cc, x1, x2, x3, x4⟩ := HX.out (hdep ⟨15, .data⟩ (by simp) (by decide))
              have v47 : (fr72 C U).tmps.getD 47 undef = .pointer (some ⟨b, 0, none⟩) := x1
              obtain ⟨y0, k0⟩ := cell_of (j := 0) x3 x4 (by omega)
              obtain ⟨y1, k1⟩ := cell_of (j := 1) x3 x4 (by omega)
              obtain ⟨y2, k2⟩ := cell_of (j := 2) x3 x4 (by omega)
              obtain ⟨y3, k3⟩ := cell_of (j := 3) x3 x4 (by omega)
              have kf : ∀ j, W.frozen? ⟨b, j, none⟩ = false := fun j => by simp [World.frozen?, x3]
              have lb := lt_heap x3
              have HX1 : Hid (U (sl72 15) = .pointer (some ⟨b, 0, none⟩) ∧ wq.heap.size ≤ b ∧ W.heap[b]? = some (.cells cc 59 (0, 0)) ∧ cc.size = 4) := ⟨x1, x2, x3, x4⟩
              clear x1 x2 x3 x4
              clear hdep
              go_simp
              refine hK.out _ _ (KnownB.store HV.out (i := 16) (by omega) (by exact trivial) HX1.out.1 HX1.out.2.1 (block_set (.string ern) (block_set (.slice none 0 0) (block_set (.int .u8 0) (block_set (.slice ea em ec) (HX1.out.2.2.1))))) (by simp [HX1.out.2.2.2]) (((((HB.out).setCell (p := ⟨b, 0, none⟩) HX1.out.2.1 (.slice ea em ec)).setCell (p := ⟨b, 1, none⟩) HX1.out.2.1 (.int .u8 0)).setCell (p := ⟨b, 2, none⟩) HX1.out.2.1 (.slice none 0 0)).setCell (p := ⟨b, 3, none⟩) HX1.out.2.1 (.string ern)))
            · have v323 : (fr72 C U).tmps.getD 323 undef = .bool okv := HV.out 14 (by omega) (hdep ⟨14, .data⟩ (by simp) (by decide))
              clear hdep
              go_simp
              exact hK.out _ _ (KnownB.next HV.out HB.out HX.out (i := 17) (by omega) (by decide) (by omega) _ (by exact rfl) (Below.refl _ _) (fr72_set C U _ (by decide)))
          · intro listed a W hI hall
            obtain ⟨U, rfl, hv, hB, -⟩ := hI.U
            have HR : Hid (U 48 = .bool okv ∧ Below wf.heap.size wf W) := ⟨hv 17 (by omega) (hall 17 (by simp)), HBq.out.trans (hB.mono HBq.out.size)⟩
            obtain rfl : C = _ := funext hC
            clear hv hB hall hI
            show K2 _ _
            refine hJK _ _ (hRJ _ _ ?_)
            repeat apply Exists.intro
            exact ⟨HR.out, rfl⟩
          · decide
          · exact ⟨C, rfl, fun j hj hL => (by exfalso; simp [Array.getD] at hL), (Below.refl _ _).drew, fun hL => (by exfalso; simp [Array.getD] at hL)⟩
        case rest =>
          obtain ⟨rfl, hbx⟩ := hcut
          obtain ⟨wx, hwx⟩ : ∃ wx, wx = wc := ⟨_, rfl⟩
          subst hwx
          have HBx : Hid (Below wf.heap.size wf wx) := hbx
          have hAx := HA.out.kept hbx
          have cP : wx.cell? ⟨w.heap.size + 2, k, none⟩ = some (.bool (S k).isSome) := by simp [World.cell?, hAx.pres, presA, hlk]
          have lP := lt_heap hAx.pres
          have cQ : wx.cell? ⟨w.heap.size + 4, k, none⟩ = some (.bool (rOf (S k))) := by
            cases hS : S k <;> simp [World.cell?, hAx.rnps, rnpsA, hlk, hS, rOf]
          have lQ := lt_heap hAx.rnps
          have c72 : wx.cell? ⟨w.heap.size + 7, 2, none⟩ = some (.map (some (w.heap.size + 6))) := by simp [World.cell?, hAx.t, pitC]
          have l72 := lt_heap hAx.t
          obtain ⟨okt, hokt0⟩ : ∃ okt, okt = (rOf (S k) && decide (k ≠ ks)) := ⟨_, rfl⟩
          obtain ⟨ta, tb, hLT⟩ := hAx.lookT (tS k) okt (fun es _ h2 => by rw [hokt0]; exact h2 k hlk)
          have HLT : Hid (∀ W', Below wx.heap.size wx W' → (Instr.lookup 33 (.map (some (w.heap.size + 6))) (.string (tS k)) true).run Yba.prog W' = .ok (.tuple #[.agg #[.string ta, .string tb], .bool okt]) W') := hLT
          have HOT : Hid (okt = (rOf (S k) && decide (k ≠ ks))) := hokt0
          clear hAx hLT hokt0 hbx c7 cR cN l7 lR lN d4 m4 hb4 hm4 hw4 hwm
          cases hS : S k with
          | none =>
            have hok : okv = false := by rw [HOK.out, hS]; rfl
            rw [hS] at cP cQ
            rw [hok]
            clear hS
            go_wp2
            go_roundw
            case rel => exact ⟨k + 1, by omega, by go_num, HBx.out⟩
            case measure => simp [intOf]; omega
          | some e =>
            rw [hS] at cP cQ
            by_cases hkk : k = ks
            · have hok : okv = false := by rw [HOK.out]; simp [hkk]
              have hokt : Hid (okt = false) := by show _ = _; rw [HOT.out]; simp [hkk]
              rw [hok]
              clear hS hok
              subst hkk
              cases hrn : e.rnp with
              | false =>
                rw [show rOf (some e) = false from hrn] at cQ
                go_wp2
                go_roundw
                case rel => exact ⟨k + 1, by omega, by go_num, HBx.out⟩
                case measure => simp [intOf]; omega
              | true =>
                rw [show rOf (some e) = true from hrn] at cQ
                go_upto_region 76 with fail
                go_cut [50] (fun v50 wy => v50 = .bool okt ∧ Below wf.heap.size wf wy)
                case first =>
                  rename_i J2 K2 hRJ hJK0
                  have hJK : ∀ a w, J2 a w → K2 a w := fun a w h => hJK0 a w (Met.intro h)
                  clear hJK0
                  go_light
                  refine wp_region_any (by kernel_rfl) ?_
                  refine fr76_start rfl rfl ?_
                  intro C hC
                  have c21 : C 21 = .pointer (some ⟨w.heap.size + 7, 0, none⟩) := hC 21
                  have c46 : C 46 = .int .i64 k := hC 46
                  refine wpAny_inv (down_of (by kernel_rfl)) (KnownB fr76 sl76 11 (val76 w.heap.size k ta tb okt) C wx 8 32 2) ?_ ?_ _ _ _ _ (by simp) ?_ ?_
                  · clear hC
                    intro listed a W i o hI hsz hL ho hdep
                    obtain ⟨U, rfl, hv, hB, hx⟩ := hI.U
                    have hin : i < 11 := (Array.getElem?_eq_some_iff.1 ho).1
                    have HV : Hid (∀ j, j < 11 → listed.getD j false = true → (val76 w.heap.size k ta tb okt) j (U (sl76 j))) := hv
                    have HB : Hid (Below (wx).heap.size (wx) W) := hB
                    have HX : Hid (listed.getD 8 false = true → ∃ b c, U (sl76 8) = .pointer (some ⟨b, 0, none⟩) ∧ wx.heap.size ≤ b ∧ W.heap[b]? = some (.cells c 32 (0, 0)) ∧ c.size = 2) := hx
                    have d72 := (hB.cell (p := ⟨w.heap.size + 7, 2, none⟩) l72).trans c72
                    have lW := Nat.lt_of_lt_of_le l72 hB.size
                    have hl1 := HLT.out W hB
                    clear c72 l72
                    clear hv hB hx hsz hL hI
                    have : i = 0 ∨ i = 1 ∨ i = 2 ∨ i = 3 ∨ i = 4 ∨ i = 5 ∨ i = 6 ∨ i = 7 ∨ i = 8 ∨ i = 9 ∨ i = 10 := by omega
                    rcases this with rfl | rfl | rfl | rfl | rfl | rfl | rfl | rfl | rfl | rfl | rfl
                    all_goals
                      refine wpOp_step ho fun K1 hK0 => ?_
                      have hK : Hid (∀ a w_1, KnownB fr76 sl76 11 (val76 w.heap.size k ta tb okt) C wx 8 32 2 (listed.setIfInBounds _ true) a w_1 → K1 a w_1) := hK0
                      clear hK0
                      simp at ho
                      subst ho
                    · have v21 : (fr76 C U).tmps.getD 21 undef = .pointer (some ⟨w.heap.size + 7, 0, none⟩) := c21
                      clear hdep
                      go_simp
                      exact hK.out _ _ (KnownB.next HV.out HB.out HX.out (i := 0) (by omega) (by decide) (by omega) _ (by exact rfl) (Below.refl _ _) (fr76_set C U _ (by decide)))
                    · have v343 : (fr76 C U).tmps.getD 343 undef = .pointer (some ⟨w.heap.size + 7, 2, none⟩) := HV.out 0 (by omega) (hdep ⟨0, .data⟩ (by simp) (by decide))
                      clear hdep
                      go_simp
                      exact hK.out _ _ (KnownB.next HV.out HB.out HX.out (i := 1) (by omega) (by decide) (by omega) _ (by exact rfl) (Below.refl _ _) (fr76_set C U _ (by decide)))
                    · have v46 : (fr76 C U).tmps.getD 46 undef = .int .i64 k := c46
                      clear hdep
                      go_simp
                      exact hK.out _ _ (KnownB.next HV.out HB.out HX.out (i := 2) (by omega) (by decide) (by omega) _ (by exact rfl) (Below.refl _ _) (fr76_set C U _ (by decide)))
                    · have v345 : (fr76 C U).tmps.getD 345 undef = .int .i64 k := HV.out 2 (by omega) (hdep ⟨2, .data⟩ (by simp) (by decide))
                      clear hdep
                      go_simp
                      refine (arnp k hlk _).mono ?_
                      rintro _ w1 ⟨rfl, o1, rfl⟩
                      exact hK.out _ _ (KnownB.next HV.out HB.out HX.out (i := 3) (by omega) (by decide) (by omega) _ (by exact rfl) ((Below.refl _ _).alloc (Nat.le_refl _) o1) (fr76_set C U _ (by decide)))
                    · have v344 : (fr76 C U).tmps.getD 344 undef = .map (some (w.heap.size + 6)) := HV.out 1 (by omega) (hdep ⟨1, .data⟩ (by simp) (by decide))
                      have v346 : (fr76 C U).tmps.getD 346 undef = .string (tS k) := HV.out 3 (by omega) (hdep ⟨3, .data⟩ (by simp) (by decide))
                      clear hdep
                      go_simp
                      exact hK.out _ _ (KnownB.next HV.out HB.out HX.out (i := 4) (by omega) (by decide) (by omega) _ (by exact rfl) (Below.refl _ _) (fr76_set C U _ (by decide)))
                    · have v347 : (fr76 C U).tmps.getD 347 undef = .tuple #[.agg #[.string ta, .string tb], .bool okt] := HV.out 4 (by omega) (hdep ⟨4, .data⟩ (by simp) (by decide))
                      clear hdep
                      go_simp
                      exact hK.out _ _ (KnownB.next HV.out HB.out HX.out (i := 5) (by omega) (by decide) (by omega) _ (by exact rfl) (Below.refl _ _) (fr76_set C U _ (by decide)))
                    · have v342 : (fr76 C U).tmps.getD 342 undef = .tuple #[.agg #[.string ta, .string tb], .bool okt] := HV.out 5 (by omega) (hdep ⟨5, .data⟩ (by simp) (by decide))
                      clear hdep
                      go_simp
                      exact hK.out _ _ (KnownB.next HV.out HB.out HX.out (i := 6) (by omega) (by decide) (by omega) _ (by exact rfl) (Below.refl _ _) (fr76_set C U _ (by decide)))
                    · have v342 : (fr76 C U).tmps.getD 342 undef = .tuple #[.agg #[.string ta, .string tb], .bool okt] := HV.out 5 (by omega) (hdep ⟨5, .data⟩ (by simp) (by decide))
                      clear hdep
                      go_simp
                      exact hK.out _ _ (KnownB.next HV.out HB.out HX.out (i := 7) (by omega) (by decide) (by omega) _ (by exact rfl) (Below.refl _ _) (fr76_set C U _ (by decide)))
                    · clear hdep
                      go_simp
                      exact hK.out _ _ (KnownB.alloc HV.out HB.out (by decide) (by exact (rfl : (#[Value.string ⟨#[]⟩, Value.string ⟨#[]⟩] : Array Value).size = 2)) (by exact trivial) (fr76_set C U _ (by decide)))
                    · have v348 : (fr76 C U).tmps.getD 348 undef = .agg #[.string ta, .string tb] := HV.out 6 (by omega) (hdep ⟨6, .data⟩ (by simp) (by decide))
                      obtain ⟨b, cc, x1, x2, x3, x4⟩ := HX.out (hdep ⟨8, .data⟩ (by simp) (by decide))
                      have v49 : (fr76 C U).tmps.getD 49 undef = .pointer (some ⟨b, 0, none⟩) := x1
                      obtain ⟨y0, k0⟩ := cell_of (j := 0) x3 x4 (by omega)
                      obtain ⟨y1, k1⟩ := cell_of (j := 1) x3 x4 (by omega)
                      have kf : ∀ j, W.frozen? ⟨b, j, none⟩ = false := fun j => by simp [World.frozen?, x3]
                      have lb := lt_heap x3
                      have HX1 : Hid (U (sl76 8) = .pointer (some ⟨b, 0, none⟩) ∧ wx.heap.size ≤ b ∧ W.heap[b]? = some (.cells cc 32 (0, 0)) ∧ cc.size = 2) := ⟨x1, x2, x3, x4⟩
                      clear x1 x2 x3 x4
                      clear hdep
                      go_simp
                      refine hK.out _ _ (KnownB.store HV.out (i := 9) (by omega) (by exact trivial) HX1.out.1 HX1.out.2.1 (block_set (.string tb) (block_set (.string ta) (HX1.out.2.2.1))) (by simp [HX1.out.2.2.2]) (((HB.out).setCell (p := ⟨b, 0, none⟩) HX1.out.2.1 (.string ta)).setCell (p := ⟨b, 1, none⟩) HX1.out.2.1 (.string tb)))
                    · have v349 : (fr76 C U).tmps.getD 349 undef = .bool okt := HV.out 7 (by omega) (hdep ⟨7, .data⟩ (by simp) (by decide))
                      clear hdep
                      go_simp
                      exact hK.out _ _ (KnownB.next HV.out HB.out HX.out (i := 10) (by omega) (by decide) (by omega) _ (by exact rfl) (Below.refl _ _) (fr76_set C U _ (by decide)))
                  · intro listed a W hI hall
                    obtain ⟨U, rfl, hv, hB, -⟩ := hI.U
                    have HR : Hid (U 50 = .bool okt ∧ Below wf.heap.size wf W) := ⟨hv 10 (by omega) (hall 10 (by simp)), HBx.out.trans (hB.mono HBx.out.size)⟩
                    obtain rfl : C = _ := funext hC
                    clear hv hB hall hI
                    show K2 _ _
                    refine hJK _ _ (hRJ _ _ ?_)
                    repeat apply Exists.intro
                    exact ⟨HR.out, rfl⟩
                  · decide
                  · exact ⟨C, rfl, fun j hj hL => (by exfalso; simp [Array.getD] at hL), (Below.refl _ _).drew, fun hL => (by exfalso; simp [Array.getD] at hL)⟩
                case rest =>
                  obtain ⟨rfl, hby⟩ := hcut
                  have HBy : Hid (Below wf.heap.size wf wc) := hby
                  clear hby
                  rw [hokt.out]
                  go_wp2
                  go_roundw
                  case rel => exact ⟨k + 1, by omega, by go_num, HBy.out⟩
                  case measure => simp [intOf]; omega
            · have hok : okv = true := by rw [HOK.out, hS]; simp [hkk]
              have hkki : ¬ (k : Int) = (ks : Int) := by omega
              have hkb1 : ((k : Int) == (ks : Int)) = false := by simp [hkki]
              have hkb2 : ((k : Int) != (ks : Int)) = true := by simp [bne, hkb1]
              have hkb3 : (k == ks) = false := by simp [hkk]
              have hkb4 : (k != ks) = true := by simp [hkk]
              have hkb5 : decide (k = ks) = false := by simp [hkk]
              cases hrn : e.rnp with
              | false =>
                rw [hok]
                clear hS hok
                rw [show rOf (some e) = false from hrn] at cQ
                go_wp2
                go_roundw
                case rel => exact ⟨k + 1, by omega, by go_num, HBx.out⟩
                case measure => simp [intOf]; omega
              | true =>
                have hokt : Hid (okt = true) := by show _ = _; rw [HOT.out, hS]; simp [rOf, hrn, hkk]
                rw [hok]
                clear hS hok
                rw [show rOf (some e) = true from hrn] at cQ
                go_upto_region 76 with fail
                go_cut [50] (fun v50 wy => v50 = .bool okt ∧ Below wf.heap.size wf wy)
                case first =>
                  rename_i J2 K2 hRJ hJK0
                  have hJK : ∀ a w, J2 a w → K2 a w := fun a w h => hJK0 a w (Met.intro h)
                  clear hJK0
                  go_light
                  refine wp_region_any (by kernel_rfl) ?_
                  refine fr76_start rfl rfl ?_
                  intro C hC
                  have c21 : C 21 = .pointer (some ⟨w.heap.size + 7, 0, none⟩) := hC 21
                  have c46 : C 46 = .int .i64 k := hC 46
                  refine wpAny_inv (down_of (by kernel_rfl)) (KnownB fr76 sl76 11 (val76 w.heap.size k ta tb okt) C wx 8 32 2) ?_ ?_ _ _ _ _ (by simp) ?_ ?_
                  · clear hC
                    intro listed a W i o hI hsz hL ho hdep
                    obtain ⟨U, rfl, hv, hB, hx⟩ := hI.U
                    have hin : i < 11 := (Array.getElem?_eq_some_iff.1 ho).1
                    have HV : Hid (∀ j, j < 11 → listed.getD j false = true → (val76 w.heap.size k ta tb okt) j (U (sl76 j))) := hv
                    have HB : Hid (Below (wx).heap.size (wx) W) := hB
                    have HX : Hid (listed.getD 8 false = true → ∃ b c, U (sl76 8) = .pointer (some ⟨b, 0, none⟩) ∧ wx.heap.size ≤ b ∧ W.heap[b]? = some (.cells c 32 (0, 0)) ∧ c.size = 2) := hx
                    have d72 := (hB.cell (p := ⟨w.heap.size + 7, 2, none⟩) l72).trans c72
                    have lW := Nat.lt_of_lt_of_le l72 hB.size
                    have hl1 := HLT.out W hB
                    clear c72 l72
                    clear hv hB hx hsz hL hI
                    have : i = 0 ∨ i = 1 ∨ i = 2 ∨ i = 3 ∨ i = 4 ∨ i = 5 ∨ i = 6 ∨ i = 7 ∨ i = 8 ∨ i = 9 ∨ i = 10 := by omega
                    rcases this with rfl | rfl | rfl | rfl | rfl | rfl | rfl | rfl | rfl | rfl | rfl
                    all_goals
                      refine wpOp_step ho fun K1 hK0 => ?_
                      have hK : Hid (∀ a w_1, KnownB fr76 sl76 11 (val76 w.heap.size k ta tb okt) C wx 8 32 2 (listed.setIfInBounds _ true) a w_1 → K1 a w_1) := hK0
                      clear hK0
                      simp at ho
                      subst ho
                    · have v21 : (fr76 C U).tmps.getD 21 undef = .pointer (some ⟨w.heap.size + 7, 0, none⟩) := c21
                      clear hdep
                      go_simp
                      exact hK.out _ _ (KnownB.next HV.out HB.out HX.out (i := 0) (by omega) (by decide) (by omega) _ (by exact rfl) (Below.refl _ _) (fr76_set C U _ (by decide)))
                    · have v343 : (fr76 C U).tmps.getD 343 undef = .pointer (some ⟨w.heap.size + 7, 2, none⟩) := HV.out 0 (by omega) (hdep ⟨0, .data⟩ (by simp) (by decide))
                      clear hdep
                      go_simp
                      exact hK.out _ _ (KnownB.next HV.out HB.out HX.out (i := 1) (by omega) (by decide) (by omega) _ (by exact rfl) (Below.refl _ _) (fr76_set C U _ (by decide)))
                    · have v46 : (fr76 C U).tmps.getD 46 undef = .int .i64 k := c46
                      clear hdep
                      go_simp
                      exact hK.out _ _ (KnownB.next HV.out HB.out HX.out (i := 2) (by omega) (by decide) (by omega) _ (by exact rfl) (Below.refl _ _) (fr76_set C U _ (by decide)))
                    · have v345 : (fr76 C U).tmps.getD 345 undef = .int .i64 k := HV.out 2 (by omega) (hdep ⟨2, .data⟩ (by simp) (by decide))
                      clear hdep
                      go_simp
                      refine (arnp k hlk _).mono ?_
                      rintro _ w1 ⟨rfl, o1, rfl⟩
                      exact hK.out _ _ (KnownB.next HV.out HB.out HX.out (i := 3) (by omega) (by decide) (by omega) _ (by exact rfl) ((Below.refl _ _).alloc (Nat.le_refl _) o1) (fr76_set C U _ (by decide)))
                    · have v344 : (fr76 C U).tmps.getD 344 undef = .map (some (w.heap.size + 6)) := HV.out 1 (by omega) (hdep ⟨1, .data⟩ (by simp) (by decide))
                      have v346 : (fr76 C U).tmps.getD 346 undef = .string (tS k) := HV.out 3 (by omega) (hdep ⟨3, .data⟩ (by simp) (by decide))
                      clear hdep
                      go_simp
                      exact hK.out _ _ (KnownB.next HV.out HB.out HX.out (i := 4) (by omega) (by decide) (by omega) _ (by exact rfl) (Below.refl _ _) (fr76_set C U _ (by decide)))
                    · have v347 : (fr76 C U).tmps.getD 347 undef = .tuple #[.agg #[.string ta, .string tb], .bool okt] := HV.out 4 (by omega) (hdep ⟨4, .data⟩ (by simp) (by decide))
                      clear hdep
                      go_simp
                      exact hK.out _ _ (KnownB.next HV.out HB.out HX.out (i := 5) (by omega) (by decide) (by omega) _ (by exact rfl) (Below.refl _ _) (fr76_set C U _ (by decide)))
                    · have v342 : (fr76 C U).tmps.getD 342 undef = .tuple #[.agg #[.string ta, .string tb], .bool okt] := HV.out 5 (by omega) (hdep ⟨5, .data⟩ (by simp) (by decide))
                      clear hdep
                      go_simp
                      exact hK.out _ _ (KnownB.next HV.out HB.out HX.out (i := 6) (by omega) (by decide) (by omega) _ (by exact rfl) (Below.refl _ _) (fr76_set C U _ (by decide)))
                    · have v342 : (fr76 C U).tmps.getD 342 undef = .tuple #[.agg #[.string ta, .string tb], .bool okt] := HV.out 5 (by omega) (hdep ⟨5, .data⟩ (by simp) (by decide))
                      clear hdep
                      go_simp
                      exact hK.out _ _ (KnownB.next HV.out HB.out HX.out (i := 7) (by omega) (by decide) (by omega) _ (by exact rfl) (Below.refl _ _) (fr76_set C U _ (by decide)))
                    · clear hdep
                      go_simp
                      exact hK.out _ _ (KnownB.alloc HV.out HB.out (by decide) (by exact (rfl : (#[Value.string ⟨#[]⟩, Value.string ⟨#[]⟩] : Array Value).size = 2)) (by exact trivial) (fr76_set C U _ (by decide)))
                    · have v348 : (fr76 C U).tmps.getD 348 undef = .agg #[.string ta, .string tb] := HV.out 6 (by omega) (hdep ⟨6, .data⟩ (by simp) (by decide))
                      obtain ⟨b, cc, x1, x2, x3, x4⟩ := HX.out (hdep ⟨8, .data⟩ (by simp) (by decide))
                      have v49 : (fr76 C U).tmps.getD 49 undef = .pointer (some ⟨b, 0, none⟩) := x1
                      obtain ⟨y0, k0⟩ := cell_of (j := 0) x3 x4 (by omega)
                      obtain ⟨y1, k1⟩ := cell_of (j := 1) x3 x4 (by omega)
                      have kf : ∀ j, W.frozen? ⟨b, j, none⟩ = false := fun j => by simp [World.frozen?, x3]
                      have lb := lt_heap x3
                      have HX1 : Hid (U (sl76 8) = .pointer (some ⟨b, 0, none⟩) ∧ wx.heap.size ≤ b ∧ W.heap[b]? = some (.cells cc 32 (0, 0)) ∧ cc.size = 2) := ⟨x1, x2, x3, x4⟩
                      clear x1 x2 x3 x4
                      clear hdep
                      go_simp
                      refine hK.out _ _ (KnownB.store HV.out (i := 9) (by omega) (by exact trivial) HX1.out.1 HX1.out.2.1 (block_set (.string tb) (block_set (.string ta) (HX1.out.2.2.1))) (by simp [HX1.out.2.2.2]) (((HB.out).setCell (p := ⟨b, 0, none⟩) HX1.out.2.1 (.string ta)).setCell (p := ⟨b, 1, none⟩) HX1.out.2.1 (.string tb)))
                    · have v349 : (fr76 C U).tmps.getD 349 undef = .bool okt := HV.out 7 (by omega) (hdep ⟨7, .data⟩ (by simp) (by decide))
                      clear hdep
                      go_simp
                      exact hK.out _ _ (KnownB.next HV.out HB.out HX.out (i := 10) (by omega) (by decide) (by omega) _ (by exact rfl) (Below.refl _ _) (fr76_set C U _ (by decide)))
                  · intro listed a W hI hall
                    obtain ⟨U, rfl, hv, hB, -⟩ := hI.U
                    have HR : Hid (U 50 = .bool okt ∧ Below wf.heap.size wf W) := ⟨hv 10 (by omega) (hall 10 (by simp)), HBx.out.trans (hB.mono HBx.out.size)⟩
                    obtain rfl : C = _ := funext hC
                    clear hv hB hall hI
                    show K2 _ _
                    refine hJK _ _ (hRJ _ _ ?_)
                    repeat apply Exists.intro
                    exact ⟨HR.out, rfl⟩
                  · decide
                  · exact ⟨C, rfl, fun j hj hL => (by exfalso; simp [Array.getD] at hL), (Below.refl _ _).drew, fun hL => (by exfalso; simp [Array.getD] at hL)⟩
                case rest =>
                  obtain ⟨rfl, hby⟩ := hcut
                  have HBy : Hid (Below wf.heap.size wf wc) := hby
                  clear hby
                  rw [hokt.out]
                  go_wp2
                  go_roundw
                  case rel => exact ⟨k + 1, by omega, by go_num, HBy.out⟩
                  case measure => simp [intOf]; omega
      · go_wp2_with fail
        go_meet
        exact HBq.out
end Go.Proofs.Ybulkcfbe.tab
