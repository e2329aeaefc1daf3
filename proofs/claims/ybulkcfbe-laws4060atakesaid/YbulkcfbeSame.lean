/- The law compares the waits. -/
import Derived.Test.YbulkcfbeLast
import Derived.Deep.Light
import Derived.Deep.CutBlock
namespace Go.Proofs.Ybulkcfbe.tab
open Go.ChangeShapes Go.WideShapes Go.ChangeAt Go.RowKit
open Go.Proofs.Ybulkcfbe.tm Go.Proofs.Ybulkcfbe.sm Go.Proofs.Ybulkcfbe.pd Go.Proofs.Ybulkcfbe.inv
open Go.ChangeMaps (setBlock)
set_option linter.unusedVariables false
set_option maxRecDepth 100000 in
set_option maxHeartbeats 6400000 in
theorem part4 {c0 c1 c2 c3 c4 c5 c6 c7 c8 c9 c10 c11 c12 c13 c14 c15 c22 c23 c24 c25 c26 c27 c28 c29 c30 c31 c32 c33 c34 c42 c43 c44 c45 c46 c47 c48 c49 c50 c51 c52 c53 c54 c55 c56 c57 c58 c59 c60 c61 c62 c63 c64 c65 c66 c67 c68 c69 c70 c71 c72 c73 c74 c75 c76 c77 c78 c79 c80 c81 c82 c83 c84 c85 c86 c87 c88 c89 c90 c91 c92 c93 c94 c95 c96 c97 c98 c99 c100 c101 c102 c103 c104 c105 c106 c107 c108 c109 c110 c111 c112 c113 c114 c115 c116 c117 c118 c119 c120 c121 c122 c123 c124 c125 c126 c127 c128 c129 c130 c131 c132 c133 c134 c135 c136 c137 c138 c139 c140 c141 c142 c143 c144 c145 c146 c147 c148 c149 c150 c151 c152 c153 c154 c155 c156 c157 c158 c159 c160 c161 c162 c163 c164 c165 c166 c167 c168 c169 c170 c171 c172 c173 c174 c175 c176 c177 c178 c179 c180 c181 c182 c183 c184 c185 c186 c187 c188 c189 c190 c191 c192 c193 c194 c195 c196 c197 c198 c199 c200 c201 c202 c203 c204 c205 c206 c207 c208 c209 c210 c211 c212 c213 c214 c215 c216 c217 c218 c219 c220 c221 c222 c223 c224 c225 c226 c227 c228 c229 c230 c231 c232 c233 c234 c235 c236 c237 c238 c239 c240 c241 c242 c243 c244 c245 c246 c247 c248 c249 c250 c251 c252 c253 c254 c255 c256 c257 c258 c259 c260 c261 c262 c263 c264 c265 c266 c267 c268 c269 c270 c271 c272 c273 c274 c275 c276 c277 c278 c279 c280 c281 c282 c283 c284 c285 c286 c287 c288 c289 c290 c291 c292 c293 c294 c295 c296 c297 c298 c299 c300 c301 c302 c303 c304 c305 c306 c307 c308 c309 c310 c311 c312 c313 c314 c315 c316 c317 c318 c319 c320 c321 c322 c323 c324 c325 c326 c327 c328 c329 c330 c331 c332 c333 c334 c335 c336 c337 c338 c339 c340 c341 c342 c343 c344 c345 c346 c347 c348 c349 c350 c351 c352 c353 c354 c355 c356 c357 c358 c359 c360 c361 c362 c363 c364 c365 c366 c367 c368 c369 c370 c371 c372 c373 c374 c375 : Value} {w wf : World} {ks base base2 : Nat} {S : Nat → Option Slot} {R : Nat → Option Nat} {size bytes now c : Int} {L : List Pend} {got v38 : Value} (hs : ks < 8) (hA : Aft w.heap.size ks base w S R size bytes now L got c wf)
    (hown : wf.ownsRow base2 43 3 v38 (L ++ live now (psOf (S ks))).length (flatW ((L ++ live now (psOf (S ks))).map wtOf))) (hN : (L ++ live now (psOf (S ks))).length ≤ 4096) (hG : ∀ q ∈ L ++ live now (psOf (S ks)), (-2147483648 ≤ q.x ∧ q.x ≤ 2147483647) ∧ q.l ≤ 255) (code : Code) (hc : Yba.f3.body.bind (restOf 60) = some code) :
    Code.wp Yba.prog code (bodyPost Yba.prog Yba.f3 fun e w' => e = .returned (.bool true) ∧ Below w.heap.size w w') ⟨#[c0, c1, c2, c3, c4, c5, c6, c7, c8, c9, c10, c11, c12, c13, c14, c15, .pointer (some ⟨w.heap.size, 0, none⟩), .pointer (some ⟨w.heap.size + 1, 0, none⟩), .pointer (some ⟨w.heap.size + 2, 0, none⟩), .pointer (some ⟨w.heap.size + 3, 0, none⟩), .pointer (some ⟨w.heap.size + 4, 0, none⟩), .pointer (some ⟨w.heap.size + 7, 0, none⟩), c22, c23, c24, c25, c26, c27, c28, c29, c30, c31, c32, c33, c34, .int .i64 ks, got, .int .i64 c, v38, .int .i64 (if (S ks).isSome = true then wrap64 (size - 1) else size), .int .i64 (bytesOf bytes (psOf (S ks))), .int .i64 (if (S ks).isSome = true then 1 else 0), c42, c43, c44, c45, c46, c47, c48, c49, c50, c51, c52, c53, c54, c55, c56, c57, c58, c59, c60, c61, c62, c63, c64, c65, c66, c67, c68, c69, c70, c71, c72, c73, c74, c75, c76, c77, c78, c79, c80, c81, c82, c83, c84, c85, c86, c87, c88, c89, c90, c91, c92, c93, c94, c95, c96, c97, c98, c99, c100, c101, c102, c103, c104, c105, c106, c107, c108, c109, c110, c111, c112, c113, c114, c115, c116, c117, c118, c119, c120, c121, c122, c123, c124, c125, c126, c127, c128, c129, c130, c131, c132, c133, c134, c135, c136, c137, c138, c139, c140, c141, c142, c143, c144, c145, c146, c147, c148, c149, c150, c151, c152, c153, c154, c155, c156, c157, c158, c159, c160, c161, c162, c163, c164, c165, c166, c167, c168, c169, c170, c171, c172, c173, c174, c175, c176, c177, c178, c179, c180, c181, c182, c183, c184, c185, c186, c187, c188, c189, c190, c191, c192, c193, c194, c195, c196, c197, c198, c199, c200, c201, c202, c203, c204, c205, c206, c207, c208, c209, c210, c211, c212, c213, c214, c215, c216, c217, c218, c219, c220, c221, c222, c223, c224, c225, c226, c227, c228, c229, c230, c231, c232, c233, c234, c235, c236, c237, c238, c239, c240, c241, c242, c243, c244, c245, c246, c247, c248, c249, c250, c251, c252, c253, c254, c255, c256, c257, c258, c259, c260, c261, c262, c263, c264, c265, c266, c267, c268, c269, c270, c271, c272, c273, c274, c275, c276, c277, c278, c279, c280, c281, c282, c283, c284, c285, c286, c287, c288, c289, c290, c291, c292, c293, c294, c295, c296, c297, c298, c299, c300, c301, c302, c303, c304, c305, c306, c307, c308, c309, c310, c311, c312, c313, c314, c315, c316, c317, c318, c319, c320, c321, c322, c323, c324, c325, c326, c327, c328, c329, c330, c331, c332, c333, c334, c335, c336, c337, c338, c339, c340, c341, c342, c343, c344, c345, c346, c347, c348, c349, c350, c351, c352, c353, c354, c355, c356, c357, c358, c359, c360, c361, c362, c363, c364, c365, c366, c367, c368, c369, c370, c371, c372, c373, c374, c375], []⟩ wf := by
  conv at hc => lhs; whnf
  cases hc
  obtain ⟨G, hGe⟩ : ∃ G, G = L ++ live now (psOf (S ks)) := ⟨_, rfl⟩
  have hrow : wf.ownsRow base 55 8 got G.length (flat G) := by
    have := hA.own
    rw [hGe, List.length_append, flat_append]
    exact this
  rw [← hGe] at hown hG hN
  obtain ⟨ga, gcap, rfl, hgot⟩ := owns_form hrow
  obtain ⟨va, vcap, rfl, hwant⟩ := owns_form hown
  have c3' : wf.cell? ⟨w.heap.size + 7, 3, none⟩ = some (.int .i64 (if (S ks).isSome = true then wrap64 (size - 1) else size)) := by simp [World.cell?, hA.t, pitC]
  have c6' : wf.cell? ⟨w.heap.size + 7, 6, none⟩ = some (.int .i64 (bytesOf bytes (psOf (S ks)))) := by simp [World.cell?, hA.t, pitC]
  have l7 := lt_heap hA.t
  have hcnt := hA.cnt
  rw [← hcnt]
  have HA : Hid (Aft w.heap.size ks base w S R size bytes now L (.slice ga G.length gcap) c wf) := hA
  have HGt : Hid (0 < G.length → ∃ g, ga = some ⟨g, 0, none⟩ ∧ g < wf.heap.size ∧ ∀ k, k < G.length * 8 → wf.cell? ⟨g, k, none⟩ = (flat G)[k]?) := hgot
  have HWt : Hid (0 < G.length → ∃ g, va = some ⟨g, 0, none⟩ ∧ g < wf.heap.size ∧ ∀ k, k < G.length * 3 → wf.cell? ⟨g, k, none⟩ = (flatW (G.map wtOf))[k]?) := hwant
  have HGb : Hid (∀ q ∈ G, (-2147483648 ≤ q.x ∧ q.x ≤ 2147483647) ∧ q.l ≤ 255) := hG
  generalize (if (S ks).isSome = true then wrap64 (size - 1) else size) = sz at c3' ⊢
  generalize bytesOf bytes (psOf (S ks)) = bz at c6' ⊢
  clear hA hgot hwant hG hrow hown hcnt hGe
  go_upto_block 10 with fail
  clear c3' c6' l7
  go_cut [] (fun wx => Below wf.heap.size wf wx)
  case rest =>
    rename_i K9 hK9
    refine hK9 _ _ ?_
    exact part5 hs (HA.out.kept hcut) _ rfl
  case first =>
    go_wp2_with fail
    go_loopw [265] (fun i wq => ∃ k : Nat, k ≤ G.length ∧ i = .int .i64 k ∧ Below wf.heap.size wf wq) (fun i _ => G.length - (intOf i).toNat)
    case atStart => exact ⟨0, by omega, rfl, Below.refl _ _⟩
    case round =>
      obtain ⟨wq, hwq⟩ : ∃ wq, wq = wr := ⟨_, rfl⟩
      subst hwq
      obtain ⟨k, hk1, rfl, hbq⟩ := hrel
      have HBq : Hid (Below wf.heap.size wf wq) := hbq
      clear hbq
      by_cases hlk : k < G.length
      · obtain ⟨q, hq⟩ : ∃ q, G[k]? = some q := ⟨_, List.getElem?_eq_getElem hlk⟩
        obtain ⟨gg, rfl, lg, hgc⟩ := HGt.out (by omega)
        obtain ⟨vg, rfl, lv, hvc⟩ := HWt.out (by omega)
        obtain ⟨hqx, hql⟩ := HGb.out q (List.mem_of_getElem? hq)
        have r0 := ((HBq.out.cell (p := ⟨gg, k * 8, none⟩) lg).trans (hgc (k * 8) (by omega))).trans (flat_get G k 0 q hq (by omega))
        have gc : ∀ j, j < 8 → wq.cell? ⟨gg, k * 8 + j, none⟩ = q.cells[j]? := fun j hj => ((HBq.out.cell (p := ⟨gg, k * 8 + j, none⟩) lg).trans (hgc (k * 8 + j) (by omega))).trans (flat_get G k j q hq hj)
        have hqm : (G.map wtOf)[k]? = some (wtOf q) := by simp [hq]
        have vc : ∀ j, j < 3 → wq.cell? ⟨vg, k * 3 + j, none⟩ = (wtOf q).cells[j]? := fun j hj => ((HBq.out.cell (p := ⟨vg, k * 3 + j, none⟩) lv).trans (hvc (k * 3 + j) (by omega))).trans (flatW_get _ k j _ hqm hj)
        have g0 := gc 0 (by omega)
        have g1 := gc 1 (by omega)
        have g2 := gc 2 (by omega)
        have g3 := gc 3 (by omega)
        have g4 := gc 4 (by omega)
        have g5 := gc 5 (by omega)
        have g6 := gc 6 (by omega)
        have g7 := gc 7 (by omega)
        have v0 := vc 0 (by omega)
        have v1 := vc 1 (by omega)
        have v2 := vc 2 (by omega)
        simp only [Pend.cells, Wt.cells, wtOf, Nat.add_zero, List.getElem?_cons_zero, List.getElem?_cons_succ] at g0 g1 g2 g3 g4 g5 g6 g7 v0 v1 v2
        have lgq : gg < wq.heap.size := Nat.lt_of_lt_of_le lg HBq.out.size
        have lvq : vg < wq.heap.size := Nat.lt_of_lt_of_le lv HBq.out.size
        clear gc vc hqm r0 hgc hvc hq
        go_wp2_with fail
        refine (apend q.p q.x q.l _ hqx hql).mono ?_
        rintro _ w2 ⟨g, rfl, hb2⟩
        have HB2 : Hid (Below wf.heap.size wf w2) := HBq.out.trans (hb2.mono HBq.out.size)
        have tr : ∀ {b o : Nat} {v : Value}, b < wq.heap.size → wq.cell? ⟨b, o, none⟩ = some v → w2.cell? ⟨b, o, none⟩ = some v := fun {b o v} hb h => (hb2.cell (p := ⟨b, o, none⟩) hb).trans h
        have h0 := tr lgq g0
        have h1 := tr lgq g1
        have h2 := tr lgq g2
        have h3 := tr lgq g3
        have h4 := tr lgq g4
        have h5 := tr lgq g5
        have h6 := tr lgq g6
        have h7 := tr lgq g7
        have lg2 : gg < w2.heap.size := Nat.lt_of_lt_of_le lgq hb2.size
        have hl8 : (k : Int) < (G.length : Int) := by omega
        clear tr g0 g1 g2 g3 g4 g5 g6 g7 v0 v1 v2 hb2 lgq lvq
        go_upto_region 66 with fail
        generalize hw3 : w2.alloc (.cells #[.int .u64 0, .int .u64 0, .pointer none, .int .u16 q.p, .int .u64 (q.x % 1000000000), .int .i64 (q.x / 1000000000), .pointer none, .slice (some ⟨g, 0, none⟩) q.l q.l] 55) = w3
        have HB3 : Hid (Below wf.heap.size wf w3) := by rw [← hw3]; exact HB2.out.alloc HB2.out.size _
        have tr : ∀ {b o : Nat} {v : Value}, b < w2.heap.size → w2.cell? ⟨b, o, none⟩ = some v → w3.cell? ⟨b, o, none⟩ = some v := fun {b o v} hb h => by
          rw [← hw3, World.cell?_of_block (Below.heap_alloc _ _ _ hb)]; exact h
        have hbx : w3.heap[w2.heap.size]? = some (.cells #[.int .u64 0, .int .u64 0, .pointer none, .int .u16 q.p, .int .u64 (q.x % 1000000000), .int .i64 (q.x / 1000000000), .pointer none, .slice (some ⟨g, 0, none⟩) q.l q.l] 55) := by
          rw [← hw3]
          show (w2.heap.push _)[w2.heap.size]? = _
          simp
        replace h0 := tr lg2 h0
        replace h1 := tr lg2 h1
        replace h2 := tr lg2 h2
        replace h3 := tr lg2 h3
        replace h4 := tr lg2 h4
        replace h5 := tr lg2 h5
        replace h6 := tr lg2 h6
        replace h7 := tr lg2 h7
        have b0 : w3.cell? ⟨w2.heap.size, 0, none⟩ = some (.int .u64 0) := by simp [World.cell?, hbx]
        have b1 : w3.cell? ⟨w2.heap.size, 1, none⟩ = some (.int .u64 0) := by simp [World.cell?, hbx]
        have b2 : w3.cell? ⟨w2.heap.size, 2, none⟩ = some (.pointer none) := by simp [World.cell?, hbx]
        have b3 : w3.cell? ⟨w2.heap.size, 3, none⟩ = some (.int .u16 q.p) := by simp [World.cell?, hbx]
        have b4 : w3.cell? ⟨w2.heap.size, 4, none⟩ = some (.int .u64 (q.x % 1000000000)) := by simp [World.cell?, hbx]
        have b5 : w3.cell? ⟨w2.heap.size, 5, none⟩ = some (.int .i64 (q.x / 1000000000)) := by simp [World.cell?, hbx]
        have b6 : w3.cell? ⟨w2.heap.size, 6, none⟩ = some (.pointer none) := by simp [World.cell?, hbx]
        have b7 : w3.cell? ⟨w2.heap.size, 7, none⟩ = some (.slice (some ⟨g, 0, none⟩) q.l q.l) := by simp [World.cell?, hbx]
        have lX3 := lt_heap hbx
        have lg3 : gg < w3.heap.size := by omega
        clear hw3 tr hbx
        go_cut [303] (fun v wx => v = .bool false ∧ Below wf.heap.size wf wx)
        case first =>
          rename_i J2 K2 hRJ hJK0
          have hJK : ∀ a w, J2 a w → K2 a w := fun a w h => hJK0 a w (Met.intro h)
          clear hJK0
          go_light
          have HEQ : Hid (∀ W, Calls Yba.prog 9 #[.agg #[.int .u64 (q.x % 1000000000), .int .i64 (q.x / 1000000000), .pointer none], .agg #[.int .u64 (q.x % 1000000000), .int .i64 (q.x / 1000000000), .pointer none]] W fun e w' => e = .returned (.bool true) ∧ ∃ o1 o2, w' = (W.alloc o1).alloc o2) := fun W => equal q.x W
          have hne := neq52 q.p
          refine wp_region_any (by kernel_rfl) ?_
          refine fr66_start rfl rfl ?_
          intro C hC
          have c36 : C 36 = .slice (some ⟨gg, 0, none⟩) G.length gcap := hC 36
          have c44 : C 44 = .int .i64 k := hC 44
          have c45 : C 45 = .pointer (some ⟨w2.heap.size, 0, none⟩) := hC 45
          refine wpAny_inv (down_of (by kernel_rfl)) (Known fr66 273 31 (val66 (.slice (some ⟨gg, 0, none⟩) G.length gcap) k gg w2.heap.size q.p q.x q.l q.g g) C w3) ?_ ?_ _ _ _ _ (by simp) ?_ ?_
          · clear hC
            intro listed a W i o hI hsz hL ho hdep
            obtain ⟨U, rfl, hv, hB⟩ := hI.U
            have hin : i < 31 := (Array.getElem?_eq_some_iff.1 ho).1
            have HV : Hid (∀ j, j < 31 → listed.getD j false = true → U (273 + j) = (val66 (.slice (some ⟨gg, 0, none⟩) G.length gcap) k gg w2.heap.size q.p q.x q.l q.g g) j) := hv
            have HB : Hid (Below (w3).heap.size (w3) W) := hB
            have d0 := (hB.cell (p := ⟨gg, k * 8, none⟩) lg3).trans h0
            have e0 := (hB.cell (p := ⟨w2.heap.size, 0, none⟩) lX3).trans b0
            have d1 := (hB.cell (p := ⟨gg, k * 8 + 1, none⟩) lg3).trans h1
            have e1 := (hB.cell (p := ⟨w2.heap.size, 1, none⟩) lX3).trans b1
            have d2 := (hB.cell (p := ⟨gg, k * 8 + 2, none⟩) lg3).trans h2
            have e2 := (hB.cell (p := ⟨w2.heap.size, 2, none⟩) lX3).trans b2
            have d3 := (hB.cell (p := ⟨gg, k * 8 + 3, none⟩) lg3).trans h3
            have e3 := (hB.cell (p := ⟨w2.heap.size, 3, none⟩) lX3).trans b3
            have d4 := (hB.cell (p := ⟨gg, k * 8 + 4, none⟩) lg3).trans h4
            have e4 := (hB.cell (p := ⟨w2.heap.size, 4, none⟩) lX3).trans b4
            have d5 := (hB.cell (p := ⟨gg, k * 8 + 5, none⟩) lg3).trans h5
            have e5 := (hB.cell (p := ⟨w2.heap.size, 5, none⟩) lX3).trans b5
            have d6 := (hB.cell (p := ⟨gg, k * 8 + 6, none⟩) lg3).trans h6
            have e6 := (hB.cell (p := ⟨w2.heap.size, 6, none⟩) lX3).trans b6
            have d7 := (hB.cell (p := ⟨gg, k * 8 + 7, none⟩) lg3).trans h7
            have e7 := (hB.cell (p := ⟨w2.heap.size, 7, none⟩) lX3).trans b7
            have lgW := Nat.lt_of_lt_of_le lg3 hB.size
            have lXW := Nat.lt_of_lt_of_le lX3 hB.size
            clear h0 h1 h2 h3 h4 h5 h6 h7 b0 b1 b2 b3 b4 b5 b6 b7 lg3 lX3
            clear hv hB hsz hL hI
            have : i = 0 ∨ i = 1 ∨ i = 2 ∨ i = 3 ∨ i = 4 ∨ i = 5 ∨ i = 6 ∨ i = 7 ∨ i = 8 ∨ i = 9 ∨ i = 10 ∨ i = 11 ∨ i = 12 ∨ i = 13 ∨ i = 14 ∨ i = 15 ∨ i = 16 ∨ i = 17 ∨ i = 18 ∨ i = 19 ∨ i = 20 ∨ i = 21 ∨ i = 22 ∨ i = 23 ∨ i = 24 ∨ i = 25 ∨ i = 26 ∨ i = 27 ∨ i = 28 ∨ i = 29 ∨ i = 30 := by omega
            rcases this with rfl | rfl | rfl | rfl | rfl | rfl | rfl | rfl | rfl | rfl | rfl | rfl | rfl | rfl | rfl | rfl | rfl | rfl | rfl | rfl | rfl | rfl | rfl | rfl | rfl | rfl | rfl | rfl | rfl | rfl | rfl
            all_goals
              refine wpOp_step ho fun K1 hK0 => ?_
              have hK : Hid (∀ a w_1, Known fr66 273 31 (val66 (.slice (some ⟨gg, 0, none⟩) G.length gcap) k gg w2.heap.size q.p q.x q.l q.g g) C w3 (listed.setIfInBounds _ true) a w_1 → K1 a w_1) := hK0
              clear hK0
              simp at ho
              subst ho
            · have v36 : (fr66 C U).tmps.getD 36 undef = .slice (some ⟨gg, 0, none⟩) G.length gcap := c36
              clear hdep
              go_simp
              exact hK.out _ _ (Known.next HV.out HB.out (i := 0) _ rfl (Below.refl _ _) (fr66_set C U _ (by omega)))
            · have v44 : (fr66 C U).tmps.getD 44 undef = .int .i64 k := c44
              clear hdep
              go_simp
              exact hK.out _ _ (Known.next HV.out HB.out (i := 1) _ rfl (Below.refl _ _) (fr66_set C U _ (by omega)))
            · have v273 : (fr66 C U).tmps.getD 273 undef = .slice (some ⟨gg, 0, none⟩) G.length gcap := HV.out 0 (by omega) (hdep ⟨0, .data⟩ (by simp) (by decide))
              have v274 : (fr66 C U).tmps.getD 274 undef = .int .i64 k := HV.out 1 (by omega) (hdep ⟨1, .data⟩ (by simp) (by decide))
              clear hdep
              go_simp
              exact hK.out _ _ (Known.next HV.out HB.out (i := 2) _ rfl (Below.refl _ _) (fr66_set C U _ (by omega)))
            · have v275 : (fr66 C U).tmps.getD 275 undef = .pointer (some ⟨gg, k * 8, none⟩) := HV.out 2 (by omega) (hdep ⟨2, .data⟩ (by simp) (by decide))
              clear hdep
              go_simp
              exact hK.out _ _ (Known.next HV.out HB.out (i := 3) _ rfl (Below.refl _ _) (fr66_set C U _ (by omega)))
            · have v276 : (fr66 C U).tmps.getD 276 undef = .pointer (some ⟨gg, k * 8, none⟩) := HV.out 3 (by omega) (hdep ⟨3, .data⟩ (by simp) (by decide))
              clear hdep
              go_simp
              exact hK.out _ _ (Known.next HV.out HB.out (i := 4) _ rfl (Below.refl _ _) (fr66_set C U _ (by omega)))
            · have v45 : (fr66 C U).tmps.getD 45 undef = .pointer (some ⟨w2.heap.size, 0, none⟩) := c45
              clear hdep
              go_simp
              exact hK.out _ _ (Known.next HV.out HB.out (i := 5) _ rfl (Below.refl _ _) (fr66_set C U _ (by omega)))
            · have v278 : (fr66 C U).tmps.getD 278 undef = .pointer (some ⟨w2.heap.size, 0, none⟩) := HV.out 5 (by omega) (hdep ⟨5, .data⟩ (by simp) (by decide))
              clear hdep
              go_simp
              exact hK.out _ _ (Known.next HV.out HB.out (i := 6) _ rfl (Below.refl _ _) (fr66_set C U _ (by omega)))
            · have v277 : (fr66 C U).tmps.getD 277 undef = .agg #[.int .u64 0, .int .u64 0, .pointer none, .int .u16 q.p] := HV.out 4 (by omega) (hdep ⟨4, .data⟩ (by simp) (by decide))
              have v279 : (fr66 C U).tmps.getD 279 undef = .agg #[.int .u64 0, .int .u64 0, .pointer none, .int .u16 q.p] := HV.out 6 (by omega) (hdep ⟨6, .data⟩ (by simp) (by decide))
              clear hdep
              go_simp
              exact hK.out _ _ (Known.next HV.out HB.out (i := 7) _ rfl (Below.refl _ _) (fr66_set C U _ (by omega)))
            · have v280 : (fr66 C U).tmps.getD 280 undef = .bool false := HV.out 7 (by omega) (hdep ⟨7, .data⟩ (by simp) (by decide))
              clear hdep
              go_simp
              exact hK.out _ _ (Known.next HV.out HB.out (i := 8) _ rfl (Below.refl _ _) (fr66_set C U _ (by omega)))
            · have v36 : (fr66 C U).tmps.getD 36 undef = .slice (some ⟨gg, 0, none⟩) G.length gcap := c36
              have x281 : (fr66 C U).tmps[281]? = some (.bool false) := congrArg some (HV.out 8 (by omega) (hdep ⟨8, .guard⟩ (by simp) (by decide)))
              clear hdep
              go_simp
              exact hK.out _ _ (Known.next HV.out HB.out (i := 9) _ rfl (Below.refl _ _) (fr66_set C U _ (by omega)))
            · have v44 : (fr66 C U).tmps.getD 44 undef = .int .i64 k := c44
              have x281 : (fr66 C U).tmps[281]? = some (.bool false) := congrArg some (HV.out 8 (by omega) (hdep ⟨8, .guard⟩ (by simp) (by decide)))
              clear hdep
              go_simp
              exact hK.out _ _ (Known.next HV.out HB.out (i := 10) _ rfl (Below.refl _ _) (fr66_set C U _ (by omega)))
            · have v282 : (fr66 C U).tmps.getD 282 undef = .slice (some ⟨gg, 0, none⟩) G.length gcap := HV.out 9 (by omega) (hdep ⟨9, .data⟩ (by simp) (by decide))
              have v283 : (fr66 C U).tmps.getD 283 undef = .int .i64 k := HV.out 10 (by omega) (hdep ⟨10, .data⟩ (by simp) (by decide))
              have x281 : (fr66 C U).tmps[281]? = some (.bool false) := congrArg some (HV.out 8 (by omega) (hdep ⟨8, .guard⟩ (by simp) (by decide)))
              clear hdep
              go_simp
              exact hK.out _ _ (Known.next HV.out HB.out (i := 11) _ rfl (Below.refl _ _) (fr66_set C U _ (by omega)))
            · have v284 : (fr66 C U).tmps.getD 284 undef = .pointer (some ⟨gg, k * 8, none⟩) := HV.out 11 (by omega) (hdep ⟨11, .data⟩ (by simp) (by decide))
              have x281 : (fr66 C U).tmps[281]? = some (.bool false) := congrArg some (HV.out 8 (by omega) (hdep ⟨8, .guard⟩ (by simp) (by decide)))
              clear hdep
              go_simp
              exact hK.out _ _ (Known.next HV.out HB.out (i := 12) _ rfl (Below.refl _ _) (fr66_set C U _ (by omega)))
            · have v285 : (fr66 C U).tmps.getD 285 undef = .pointer (some ⟨gg, k * 8 + 4, none⟩) := HV.out 12 (by omega) (hdep ⟨12, .data⟩ (by simp) (by decide))
              have x281 : (fr66 C U).tmps[281]? = some (.bool false) := congrArg some (HV.out 8 (by omega) (hdep ⟨8, .guard⟩ (by simp) (by decide)))
              clear hdep
              go_simp
              exact hK.out _ _ (Known.next HV.out HB.out (i := 13) _ rfl (Below.refl _ _) (fr66_set C U _ (by omega)))
            · have v45 : (fr66 C U).tmps.getD 45 undef = .pointer (some ⟨w2.heap.size, 0, none⟩) := c45
              have x281 : (fr66 C U).tmps[281]? = some (.bool false) := congrArg some (HV.out 8 (by omega) (hdep ⟨8, .guard⟩ (by simp) (by decide)))
              clear hdep
              go_simp
              exact hK.out _ _ (Known.next HV.out HB.out (i := 14) _ rfl (Below.refl _ _) (fr66_set C U _ (by omega)))
            · have v287 : (fr66 C U).tmps.getD 287 undef = .pointer (some ⟨w2.heap.size, 4, none⟩) := HV.out 14 (by omega) (hdep ⟨14, .data⟩ (by simp) (by decide))
              have x281 : (fr66 C U).tmps[281]? = some (.bool false) := congrArg some (HV.out 8 (by omega) (hdep ⟨8, .guard⟩ (by simp) (by decide)))
              clear hdep
              go_simp
              exact hK.out _ _ (Known.next HV.out HB.out (i := 15) _ rfl (Below.refl _ _) (fr66_set C U _ (by omega)))
            · have v286 : (fr66 C U).tmps.getD 286 undef = .agg #[.int .u64 (q.x % 1000000000), .int .i64 (q.x / 1000000000), .pointer none] := HV.out 13 (by omega) (hdep ⟨13, .data⟩ (by simp) (by decide))
              have v288 : (fr66 C U).tmps.getD 288 undef = .agg #[.int .u64 (q.x % 1000000000), .int .i64 (q.x / 1000000000), .pointer none] := HV.out 15 (by omega) (hdep ⟨15, .data⟩ (by simp) (by decide))
              have x281 : (fr66 C U).tmps[281]? = some (.bool false) := congrArg some (HV.out 8 (by omega) (hdep ⟨8, .guard⟩ (by simp) (by decide)))
              clear hdep
              go_simp
              refine (HEQ.out _).mono ?_
              rintro _ w1 ⟨rfl, o1, o2, rfl⟩
              exact hK.out _ _ (Known.next HV.out HB.out (i := 16) _ rfl (((Below.refl _ _).alloc (Nat.le_refl _) o1).alloc (by simp) o2) (fr66_set C U _ (by omega)))
            · have v289 : (fr66 C U).tmps.getD 289 undef = .bool true := HV.out 16 (by omega) (hdep ⟨16, .data⟩ (by simp) (by decide))
              have x281 : (fr66 C U).tmps[281]? = some (.bool false) := congrArg some (HV.out 8 (by omega) (hdep ⟨8, .guard⟩ (by simp) (by decide)))
              clear hdep
              go_simp
              exact hK.out _ _ (Known.next HV.out HB.out (i := 17) _ rfl (Below.refl _ _) (fr66_set C U _ (by omega)))
            · have v281 : (fr66 C U).tmps.getD 281 undef = .bool false := HV.out 8 (by omega) (hdep ⟨8, .data⟩ (by simp) (by decide))
              have v290 : (fr66 C U).tmps.getD 290 undef = .bool false := HV.out 17 (by omega) (hdep ⟨17, .data⟩ (by simp) (by decide))
              clear hdep
              go_simp
              exact hK.out _ _ (Known.next HV.out HB.out (i := 18) _ rfl (Below.refl _ _) (fr66_set C U _ (by omega)))
            · have v291 : (fr66 C U).tmps.getD 291 undef = .bool false := HV.out 18 (by omega) (hdep ⟨18, .data⟩ (by simp) (by decide))
              clear hdep
              go_simp
              exact hK.out _ _ (Known.next HV.out HB.out (i := 19) _ rfl (Below.refl _ _) (fr66_set C U _ (by omega)))
            · have v36 : (fr66 C U).tmps.getD 36 undef = .slice (some ⟨gg, 0, none⟩) G.length gcap := c36
              have x292 : (fr66 C U).tmps[292]? = some (.bool false) := congrArg some (HV.out 19 (by omega) (hdep ⟨19, .guard⟩ (by simp) (by decide)))
              clear hdep
              go_simp
              exact hK.out _ _ (Known.next HV.out HB.out (i := 20) _ rfl (Below.refl _ _) (fr66_set C U _ (by omega)))
            · have v44 : (fr66 C U).tmps.getD 44 undef = .int .i64 k := c44
              have x292 : (fr66 C U).tmps[292]? = some (.bool false) := congrArg some (HV.out 19 (by omega) (hdep ⟨19, .guard⟩ (by simp) (by decide)))
              clear hdep
              go_simp
              exact hK.out _ _ (Known.next HV.out HB.out (i := 21) _ rfl (Below.refl _ _) (fr66_set C U _ (by omega)))
            · have v293 : (fr66 C U).tmps.getD 293 undef = .slice (some ⟨gg, 0, none⟩) G.length gcap := HV.out 20 (by omega) (hdep ⟨20, .data⟩ (by simp) (by decide))
              have v294 : (fr66 C U).tmps.getD 294 undef = .int .i64 k := HV.out 21 (by omega) (hdep ⟨21, .data⟩ (by simp) (by decide))
              have x292 : (fr66 C U).tmps[292]? = some (.bool false) := congrArg some (HV.out 19 (by omega) (hdep ⟨19, .guard⟩ (by simp) (by decide)))
              clear hdep
              go_simp
              exact hK.out _ _ (Known.next HV.out HB.out (i := 22) _ rfl (Below.refl _ _) (fr66_set C U _ (by omega)))
            · have v295 : (fr66 C U).tmps.getD 295 undef = .pointer (some ⟨gg, k * 8, none⟩) := HV.out 22 (by omega) (hdep ⟨22, .data⟩ (by simp) (by decide))
              have x292 : (fr66 C U).tmps[292]? = some (.bool false) := congrArg some (HV.out 19 (by omega) (hdep ⟨19, .guard⟩ (by simp) (by decide)))
              clear hdep
              go_simp
              exact hK.out _ _ (Known.next HV.out HB.out (i := 23) _ rfl (Below.refl _ _) (fr66_set C U _ (by omega)))
            · have v296 : (fr66 C U).tmps.getD 296 undef = .pointer (some ⟨gg, k * 8 + 7, none⟩) := HV.out 23 (by omega) (hdep ⟨23, .data⟩ (by simp) (by decide))
              have x292 : (fr66 C U).tmps[292]? = some (.bool false) := congrArg some (HV.out 19 (by omega) (hdep ⟨19, .guard⟩ (by simp) (by decide)))
              clear hdep
              go_simp
              exact hK.out _ _ (Known.next HV.out HB.out (i := 24) _ rfl (Below.refl _ _) (fr66_set C U _ (by omega)))
            · have v297 : (fr66 C U).tmps.getD 297 undef = .slice (some ⟨q.g, 0, none⟩) q.l q.l := HV.out 24 (by omega) (hdep ⟨24, .data⟩ (by simp) (by decide))
              have x292 : (fr66 C U).tmps[292]? = some (.bool false) := congrArg some (HV.out 19 (by omega) (hdep ⟨19, .guard⟩ (by simp) (by decide)))
              clear hdep
              go_simp
              exact hK.out _ _ (Known.next HV.out HB.out (i := 25) _ rfl (Below.refl _ _) (fr66_set C U _ (by omega)))
            · have v45 : (fr66 C U).tmps.getD 45 undef = .pointer (some ⟨w2.heap.size, 0, none⟩) := c45
              have x292 : (fr66 C U).tmps[292]? = some (.bool false) := congrArg some (HV.out 19 (by omega) (hdep ⟨19, .guard⟩ (by simp) (by decide)))
              clear hdep
              go_simp
              exact hK.out _ _ (Known.next HV.out HB.out (i := 26) _ rfl (Below.refl _ _) (fr66_set C U _ (by omega)))
            · have v299 : (fr66 C U).tmps.getD 299 undef = .pointer (some ⟨w2.heap.size, 7, none⟩) := HV.out 26 (by omega) (hdep ⟨26, .data⟩ (by simp) (by decide))
              have x292 : (fr66 C U).tmps[292]? = some (.bool false) := congrArg some (HV.out 19 (by omega) (hdep ⟨19, .guard⟩ (by simp) (by decide)))
              clear hdep
              go_simp
              exact hK.out _ _ (Known.next HV.out HB.out (i := 27) _ rfl (Below.refl _ _) (fr66_set C U _ (by omega)))
            · have v300 : (fr66 C U).tmps.getD 300 undef = .slice (some ⟨g, 0, none⟩) q.l q.l := HV.out 27 (by omega) (hdep ⟨27, .data⟩ (by simp) (by decide))
              have x292 : (fr66 C U).tmps[292]? = some (.bool false) := congrArg some (HV.out 19 (by omega) (hdep ⟨19, .guard⟩ (by simp) (by decide)))
              clear hdep
              go_simp
              exact hK.out _ _ (Known.next HV.out HB.out (i := 28) _ rfl (Below.refl _ _) (fr66_set C U _ (by omega)))
            · have v298 : (fr66 C U).tmps.getD 298 undef = .int .i64 q.l := HV.out 25 (by omega) (hdep ⟨25, .data⟩ (by simp) (by decide))
              have v301 : (fr66 C U).tmps.getD 301 undef = .int .i64 q.l := HV.out 28 (by omega) (hdep ⟨28, .data⟩ (by simp) (by decide))
              have x292 : (fr66 C U).tmps[292]? = some (.bool false) := congrArg some (HV.out 19 (by omega) (hdep ⟨19, .guard⟩ (by simp) (by decide)))
              clear hdep
              go_simp
              exact hK.out _ _ (Known.next HV.out HB.out (i := 29) _ rfl (Below.refl _ _) (fr66_set C U _ (by omega)))
            · have v292 : (fr66 C U).tmps.getD 292 undef = .bool false := HV.out 19 (by omega) (hdep ⟨19, .data⟩ (by simp) (by decide))
              have v302 : (fr66 C U).tmps.getD 302 undef = .bool false := HV.out 29 (by omega) (hdep ⟨29, .data⟩ (by simp) (by decide))
              clear hdep
              go_simp
              exact hK.out _ _ (Known.next HV.out HB.out (i := 30) _ rfl (Below.refl _ _) (fr66_set C U _ (by omega)))
          · intro listed a W hI hall
            obtain ⟨U, rfl, hv, hB⟩ := hI.U
            have HR : Hid (U 303 = .bool false ∧ Below wf.heap.size wf W) := ⟨hv 30 (by omega) (hall 30 (by simp)), HB3.out.trans (hB.mono HB3.out.size)⟩
            obtain rfl : C = _ := funext hC
            clear hv hB hall hI
            show K2 _ _
            refine hJK _ _ (hRJ _ _ ?_)
            repeat apply Exists.intro
            exact ⟨HR.out, rfl⟩
          · decide
          · exact ⟨C, rfl, fun j hj hL => by exfalso; simp [Array.getD] at hL, (Below.refl _ _).drew⟩
        case rest =>
          obtain ⟨rfl, hbc⟩ := hcut
          have HBc : Hid (Below wf.heap.size wf wc) := hbc
          clear hbc h0 h1 h2 h3 h4 h5 h6 h7 b0 b1 b2 b3 b4 b5 b6 b7
          go_wp2
          go_roundw
          case rel => exact ⟨k + 1, by omega, by go_num, HBc.out⟩
          case measure => simp [intOf]; omega
      · go_wp2_with fail
        go_meet
        exact HBq.out
end Go.Proofs.Ybulkcfbe.tab
