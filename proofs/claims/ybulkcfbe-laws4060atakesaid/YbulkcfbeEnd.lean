/- The law's last statements. -/
import Derived.Test.YbulkcfbeCmp
import Derived.Deep.Light
import Derived.Deep.CutBlock
namespace Go.Proofs.Ybulkcfbe.tab
open Go.ChangeShapes Go.WideShapes Go.ChangeAt Go.RowKit
open Go.Proofs.Ybulkcfbe.tm Go.Proofs.Ybulkcfbe.sm Go.Proofs.Ybulkcfbe.pd Go.Proofs.Ybulkcfbe.inv
open Go.ChangeMaps (setBlock)
set_option linter.unusedVariables false
/-- The number of a statement's first region. -/
def firstReg : Code → Option Nat
  | .region k _ _ => some k
  | .seq a b => (firstReg a).or (firstReg b)
  | .block _ c => firstReg c
  | .scope c => firstReg c
  | .loop c => firstReg c
  | _ => none
/-- What stands from region n on. -/
def restOf (n : Nat) : Code → Option Code
  | .seq a b => if firstReg a = some n then some (.seq a b) else restOf n b
  | c => if firstReg c = some n then some c else none
set_option maxRecDepth 100000 in
set_option maxHeartbeats 6400000 in
theorem part6 {c0 c1 c2 c3 c4 c5 c6 c7 c8 c9 c10 c11 c12 c13 c14 c15 c22 c23 c24 c25 c26 c27 c28 c29 c30 c31 c32 c33 c34 c36 c37 c38 c39 c40 c41 c42 c43 c44 c45 c46 c47 c48 c49 c50 c51 c52 c53 c54 c55 c56 c57 c58 c59 c60 c61 c62 c63 c64 c65 c66 c67 c68 c69 c70 c71 c72 c73 c74 c75 c76 c77 c78 c79 c80 c81 c82 c83 c84 c85 c86 c87 c88 c89 c90 c91 c92 c93 c94 c95 c96 c97 c98 c99 c100 c101 c102 c103 c104 c105 c106 c107 c108 c109 c110 c111 c112 c113 c114 c115 c116 c117 c118 c119 c120 c121 c122 c123 c124 c125 c126 c127 c128 c129 c130 c131 c132 c133 c134 c135 c136 c137 c138 c139 c140 c141 c142 c143 c144 c145 c146 c147 c148 c149 c150 c151 c152 c153 c154 c155 c156 c157 c158 c159 c160 c161 c162 c163 c164 c165 c166 c167 c168 c169 c170 c171 c172 c173 c174 c175 c176 c177 c178 c179 c180 c181 c182 c183 c184 c185 c186 c187 c188 c189 c190 c191 c192 c193 c194 c195 c196 c197 c198 c199 c200 c201 c202 c203 c204 c205 c206 c207 c208 c209 c210 c211 c212 c213 c214 c215 c216 c217 c218 c219 c220 c221 c222 c223 c224 c225 c226 c227 c228 c229 c230 c231 c232 c233 c234 c235 c236 c237 c238 c239 c240 c241 c242 c243 c244 c245 c246 c247 c248 c249 c250 c251 c252 c253 c254 c255 c256 c257 c258 c259 c260 c261 c262 c263 c264 c265 c266 c267 c268 c269 c270 c271 c272 c273 c274 c275 c276 c277 c278 c279 c280 c281 c282 c283 c284 c285 c286 c287 c288 c289 c290 c291 c292 c293 c294 c295 c296 c297 c298 c299 c300 c301 c302 c303 c304 c305 c306 c307 c308 c309 c310 c311 c312 c313 c314 c315 c316 c317 c318 c319 c320 c321 c322 c323 c324 c325 c326 c327 c328 c329 c330 c331 c332 c333 c334 c335 c336 c337 c338 c339 c340 c341 c342 c343 c344 c345 c346 c347 c348 c349 c350 c351 c352 c353 c354 c355 c356 c357 c358 c359 c360 c361 c362 c363 c364 c365 c366 c367 c368 c369 c370 c371 c372 c373 c374 c375 : Value} {w wf : World} {ks base : Nat} {S : Nat → Option Slot} {R : Nat → Option Nat} {size bytes now c : Int} {L : List Pend} {got : Value} (hs : ks < 8) (hA : Aft w.heap.size ks base w S R size bytes now L got c wf) (code : Code) (hc : Yba.f3.body.bind (restOf 79) = some code) :
    Code.wp Yba.prog code (bodyPost Yba.prog Yba.f3 fun e w' => e = .returned (.bool true) ∧ Below w.heap.size w w') ⟨#[c0, c1, c2, c3, c4, c5, c6, c7, c8, c9, c10, c11, c12, c13, c14, c15, .pointer (some ⟨w.heap.size, 0, none⟩), .pointer (some ⟨w.heap.size + 1, 0, none⟩), .pointer (some ⟨w.heap.size + 2, 0, none⟩), .pointer (some ⟨w.heap.size + 3, 0, none⟩), .pointer (some ⟨w.heap.size + 4, 0, none⟩), .pointer (some ⟨w.heap.size + 7, 0, none⟩), c22, c23, c24, c25, c26, c27, c28, c29, c30, c31, c32, c33, c34, .int .i64 ks, c36, c37, c38, c39, c40, c41, c42, c43, c44, c45, c46, c47, c48, c49, c50, c51, c52, c53, c54, c55, c56, c57, c58, c59, c60, c61, c62, c63, c64, c65, c66, c67, c68, c69, c70, c71, c72, c73, c74, c75, c76, c77, c78, c79, c80, c81, c82, c83, c84, c85, c86, c87, c88, c89, c90, c91, c92, c93, c94, c95, c96, c97, c98, c99, c100, c101, c102, c103, c104, c105, c106, c107, c108, c109, c110, c111, c112, c113, c114, c115, c116, c117, c118, c119, c120, c121, c122, c123, c124, c125, c126, c127, c128, c129, c130, c131, c132, c133, c134, c135, c136, c137, c138, c139, c140, c141, c142, c143, c144, c145, c146, c147, c148, c149, c150, c151, c152, c153, c154, c155, c156, c157, c158, c159, c160, c161, c162, c163, c164, c165, c166, c167, c168, c169, c170, c171, c172, c173, c174, c175, c176, c177, c178, c179, c180, c181, c182, c183, c184, c185, c186, c187, c188, c189, c190, c191, c192, c193, c194, c195, c196, c197, c198, c199, c200, c201, c202, c203, c204, c205, c206, c207, c208, c209, c210, c211, c212, c213, c214, c215, c216, c217, c218, c219, c220, c221, c222, c223, c224, c225, c226, c227, c228, c229, c230, c231, c232, c233, c234, c235, c236, c237, c238, c239, c240, c241, c242, c243, c244, c245, c246, c247, c248, c249, c250, c251, c252, c253, c254, c255, c256, c257, c258, c259, c260, c261, c262, c263, c264, c265, c266, c267, c268, c269, c270, c271, c272, c273, c274, c275, c276, c277, c278, c279, c280, c281, c282, c283, c284, c285, c286, c287, c288, c289, c290, c291, c292, c293, c294, c295, c296, c297, c298, c299, c300, c301, c302, c303, c304, c305, c306, c307, c308, c309, c310, c311, c312, c313, c314, c315, c316, c317, c318, c319, c320, c321, c322, c323, c324, c325, c326, c327, c328, c329, c330, c331, c332, c333, c334, c335, c336, c337, c338, c339, c340, c341, c342, c343, c344, c345, c346, c347, c348, c349, c350, c351, c352, c353, c354, c355, c356, c357, c358, c359, c360, c361, c362, c363, c364, c365, c366, c367, c368, c369, c370, c371, c372, c373, c374, c375], []⟩ wf := by
  conv at hc => lhs; whnf
  cases hc
  have cP : wf.cell? ⟨w.heap.size + 2, ks, none⟩ = some (.bool (S ks).isSome) := by simp [World.cell?, hA.pres, presA, hs]
  have lP := lt_heap hA.pres
  have c70 : wf.cell? ⟨w.heap.size + 7, 0, none⟩ = some (.map (some (w.heap.size + 5))) := by simp [World.cell?, hA.t, pitC]
  have l7 := lt_heap hA.t
  have cR : wf.cell? ⟨w.heap.size, ks / 4, none⟩ = some (.string (rS (ks / 4))) := by
    have : ks / 4 = 0 ∨ ks / 4 = 1 := by omega
    rcases this with e | e <;> simp [World.cell?, hA.restr, e]
  have lR := lt_heap hA.restr
  have hsi : (ks : Int) < 8 := by omega
  have d4 : (ks : Int).tdiv 4 = ((ks / 4 : Nat) : Int) := by rw [Int.tdiv_eq_ediv_of_nonneg (by omega)]; omega
  have hb4 : ks / 4 < 2 := by omega
  obtain ⟨es, cl, e1, e2, e3⟩ := hA.ent
  have HLK : Hid (∀ n, (Instr.lookup 30 (.map (some (w.heap.size + 5))) (.string (rS (ks / 4))) false).run Yba.prog (wf.drewN n) = .ok (((R (ks / 4)).map fun m => Value.map (some m)).getD (.map none)) (wf.drewN n)) := fun n => by
    have := run_lookup (P := Yba.prog) (w := wf.drewN n) (m := w.heap.size + 5) (clock := cl) Yba.underlying9 Yba.underlying30 (zero61 _) e1 e2 (rS (ks / 4)) false
    rw [this, e3 _ hb4]
    rfl
  obtain ⟨ta, tb, hLT⟩ := hA.lookT keep true (fun es h1 _ => h1)
  have HLT : Hid (∀ W', Below wf.heap.size wf W' → (Instr.lookup 33 (.map (some (w.heap.size + 6))) (.string keep) true).run Yba.prog W' = .ok (.tuple #[.agg #[.string ta, .string tb], .bool true]) W') := hLT
  have HA : Hid (Aft w.heap.size ks base w S R size bytes now L got c wf) := hA
  have c72 : wf.cell? ⟨w.heap.size + 7, 2, none⟩ = some (.map (some (w.heap.size + 6))) := by simp [World.cell?, hA.t, pitC]
  clear e1 e2 e3 hLT hA
  dsimp only
  go_upto_region 79 with fail
  go_cut [367] (fun v wx => v = .bool false ∧ ∃ n, wx = wf.drewN n)
  case first =>
    cases hS : S ks with
    | none =>
      rw [hS] at cP
      clear HLK
      go_quiet (fail)
      go_wp2_with fail
      go_meet
      exact ⟨rfl, _, rfl⟩
    | some e =>
      rw [hS] at cP
      cases hR : R (ks / 4) with
      | none =>
        exfalso
        have := HA.out.nmsN (ks / 4) hb4 hR (ks % 4) (by omega)
        rw [show ks / 4 * 4 + ks % 4 = ks by omega, hS] at this
        cases this
      | some M =>
        have hlk : ∀ n, (Instr.lookup 30 (.map (some (w.heap.size + 5))) (.string (rS (ks / 4))) false).run Yba.prog (wf.drewN n) = .ok (.map (some M)) (wf.drewN n) := fun n => by
          have := HLK.out n
          rw [hR] at this
          exact this
        have hlk0 : (Instr.lookup 30 (.map (some (w.heap.size + 5))) (.string (rS (ks / 4))) false).run Yba.prog wf = .ok (.map (some M)) wf := hlk 0
        have heq := eqlSome M
        clear HLK
        go_quiet (fail)
        go_wp2_with fail
        go_meet
        exact ⟨rfl, _, rfl⟩
  case rest =>
    obtain ⟨rfl, n, hwn⟩ := hcut
    have HBn : Hid (Below wf.heap.size wf wc) := by rw [hwn]; exact ⟨rfl, rfl, rfl, Nat.le_refl _, fun _ _ => rfl⟩
    have c72' : wc.cell? ⟨w.heap.size + 7, 2, none⟩ = some (.map (some (w.heap.size + 6))) := (HBn.out.cell (p := ⟨w.heap.size + 7, 2, none⟩) l7).trans c72
    have l7' : w.heap.size + 7 < wc.heap.size := Nat.lt_of_lt_of_le l7 HBn.out.size
    have hl := HLT.out wc HBn.out
    simp only [keep] at hl
    have HF : Hid (Below w.heap.size w wc) := HA.out.bel.trans (HBn.out.mono HA.out.bel.size)
    clear hwn HLT HLK c72 l7 cP c70 cR lP lR
    go_wp2
    go_ret
    exact ⟨rfl, HF.out.alloc HF.out.size _⟩
end Go.Proofs.Ybulkcfbe.tab
