import Derived.Test.YbulkedjqT4
import Derived.WalkSpells
namespace Go.Proofs.Ybulkedjq
open Go.RowKit

theorem tmod_neg {n d : Int} (h : n.tmod d < 0) : n < 0 := by
  rcases Int.lt_or_le n 0 with h1 | h1
  · exact h1
  · have := Int.tmod_nonneg d h1
    omega
theorem tmod_zero {n d : Int} (h0 : 0 ≤ n.tmod d) (hn : n < 0) : n.tmod d = 0 := by
  have h1 : 0 ≤ (-n).tmod d := Int.tmod_nonneg d (by omega)
  rw [Int.neg_tmod] at h1
  omega

set_option maxHeartbeats 3200000 in
set_option maxRecDepth 100000 in
/-- The law where Close has nothing to do. -/
theorem law_e (now due : Int) (a : Option Addr) (cp n sb ob hb pb : Nat) (S E : Nat → Int) (F : Nat → Bool) (w0 w : World) (hn : n ≤ 4096) (hlt : now < due) (hB : Below w0.heap.size w0 w) (hsp : Spn w a n S E F)
    (hss : ∀ i, i < n → w.cell? ⟨sb, i, none⟩ = some (ptr (pb + i))) (hS : Sls w n pb S E F) (hr : ∀ i, i < n → w.cell? ⟨ob, i, none⟩ = some (ptr (pb + i)))
    (hop : w.cell? ⟨hb, 12, none⟩ = some (.slice (some ⟨ob, 0, none⟩) n n)) (hdue : w.cell? ⟨hb, 13, none⟩ = some (.int .i64 due))
    (c3 c5 c6 c7 c8 c9 c10 c11 c12 c15 c16 c17 c18 c21 c22 c23 c24 c25 c26 c27 c28 c29 c30 c31 c32 c33 c34 c35 c36 c37 c38 c39 c40 c41 c42 c43 c44 c45 c46 c47 c48 c49 c50 c51 c52 c53 c54 c55 c56 c57 c58 c59 c60 c61 c62 c63 c64 c65 c66 c67 c68 c69 c70 c71 c72 c73 c74 c75 c76 c77 c78 c79 c80 c81 c82 c83 c84 c85 c86 c87 c88 c89 c90 c91 c92 c93 c94 c95 c96 c97 c98 c99 c100 c101 c102 c103 c104 c105 c106 c107 c108 c109 c110 c111 c112 c113 c114 c115 c116 c117 c118 c119 c120 c121 c122 c123 c124 c125 c126 c127 c128 c129 c130 c131 c132 c133 c134 c135 c136 c137 c138 c139 c140 c141 c142 c143 c144 c145 c146 c147 c148 c149 c150 c151 c152 c153 c154 c155 c156 c157 c158 c159 c160 c161 c162 c163 c164 c165 c166 c167 c168 c169 c170 c171 c172 c173 c174 c175 c176 c177 c178 c179 c180 c181 c182 c183 c184 c185 c186 c187 c188 c189 c190 c191 c192 c193 c194 c195 c196 c197 c198 c199 c200 c201 c202 c203 c204 c205 c206 c207 c208 c209 c210 c211 c212 c213 c214 c215 c216 c217 c218 c219 c220 c221 c222 c223 c224 c225 c226 c227 c228 c229 c230 c231 c232 c233 c234 c235 c236 c237 c238 c239 c240 c241 c242 c243 c244 c245 c246 c247 c248 c249 c250 c251 c252 c253 c254 c255 c256 c257 c258 c259 c260 c261 c262 c263 c264 c265 c266 c267 c268 c269 c270 c271 c272 c273 c274 c275 c276 c277 c278 c279 c280 c281 c282 c283 c284 c285 c286 c287 c288 c289 c290 c291 c292 c293 c294 c295 c296 c297 c298 c299 c300 c301 c302 c303 c304 c305 c306 c307 c308 c309 c310 c311 c312 c313 c314 c315 c316 c317 c318 c319 c320 c321 c322 c323 c324 c325 c326 c327 c328 c329 c330 c331 c332 c333 c334 c335 c336 c337 c338 c339 c340 c341 c342 c343 c344 c345 c346 c347 c348 c349 c350 c351 c352 c353 c354 c355 c356 c357 c358 c359 c360 c361 c362 c363 c364 c365 c366 c367 c368 c369 c370 c371 c372 c373 c374 c375 c376 c377 c378 c379 c380 c381 c382 c383 c384 c385 c386 c387 c388 c389 c390 c391 c392 c393 c394 c395 c396 c397 c398 c399 c400 c401 c402 c403 c404 c405 c406 c407 c408 c409 c410 c411 c412 c413 c414 c415 c416 c417 c418 c419 c420 c421 c422 c423 c424 c425 c426 c427 c428 c429 c430 : Value) :
    Code.wp Yba.prog ((Yba.f3.body.bind (fromR 24)).getD .skip) (bodyPost Yba.prog Yba.f3 (fun e w' => e = .returned (.bool true) ∧ Below w0.heap.size w0 w')) ⟨#[.bool false, .int .i64 now, .int .i64 due, c3, .slice a n cp, c5, c6, c7, c8, c9, c10, c11, c12, .int .i64 (n : Int), .slice (some ⟨sb, 0, none⟩) n n, c15, c16, c17, c18, .pointer (some ⟨hb, 0, none⟩), .slice none 0 0, c21, c22, c23, c24, c25, c26, c27, c28, c29, c30, c31, c32, c33, c34, c35, c36, c37, c38, c39, c40, c41, c42, c43, c44, c45, c46, c47, c48, c49, c50, c51, c52, c53, c54, c55, c56, c57, c58, c59, c60, c61, c62, c63, c64, c65, c66, c67, c68, c69, c70, c71, c72, c73, c74, c75, c76, c77, c78, c79, c80, c81, c82, c83, c84, c85, c86, c87, c88, c89, c90, c91, c92, c93, c94, c95, c96, c97, c98, c99, c100, c101, c102, c103, c104, c105, c106, c107, c108, c109, c110, c111, c112, c113, c114, c115, c116, c117, c118, c119, c120, c121, c122, c123, c124, c125, c126, c127, c128, c129, c130, c131, c132, c133, c134, c135, c136, c137, c138, c139, c140, c141, c142, c143, c144, c145, c146, c147, c148, c149, c150, c151, c152, c153, c154, c155, c156, c157, c158, c159, c160, c161, c162, c163, c164, c165, c166, c167, c168, c169, c170, c171, c172, c173, c174, c175, c176, c177, c178, c179, c180, c181, c182, c183, c184, c185, c186, c187, c188, c189, c190, c191, c192, c193, c194, c195, c196, c197, c198, c199, c200, c201, c202, c203, c204, c205, c206, c207, c208, c209, c210, c211, c212, c213, c214, c215, c216, c217, c218, c219, c220, c221, c222, c223, c224, c225, c226, c227, c228, c229, c230, c231, c232, c233, c234, c235, c236, c237, c238, c239, c240, c241, c242, c243, c244, c245, c246, c247, c248, c249, c250, c251, c252, c253, c254, c255, c256, c257, c258, c259, c260, c261, c262, c263, c264, c265, c266, c267, c268, c269, c270, c271, c272, c273, c274, c275, c276, c277, c278, c279, c280, c281, c282, c283, c284, c285, c286, c287, c288, c289, c290, c291, c292, c293, c294, c295, c296, c297, c298, c299, c300, c301, c302, c303, c304, c305, c306, c307, c308, c309, c310, c311, c312, c313, c314, c315, c316, c317, c318, c319, c320, c321, c322, c323, c324, c325, c326, c327, c328, c329, c330, c331, c332, c333, c334, c335, c336, c337, c338, c339, c340, c341, c342, c343, c344, c345, c346, c347, c348, c349, c350, c351, c352, c353, c354, c355, c356, c357, c358, c359, c360, c361, c362, c363, c364, c365, c366, c367, c368, c369, c370, c371, c372, c373, c374, c375, c376, c377, c378, c379, c380, c381, c382, c383, c384, c385, c386, c387, c388, c389, c390, c391, c392, c393, c394, c395, c396, c397, c398, c399, c400, c401, c402, c403, c404, c405, c406, c407, c408, c409, c410, c411, c412, c413, c414, c415, c416, c417, c418, c419, c420, c421, c422, c423, c424, c425, c426, c427, c428, c429, c430], []⟩ w := by
  conv => arg 2; whnf
  have HSS := Hid.mk' hss
  have HSP := Hid.mk' hsp
  have HB := Hid.mk' hB
  have HS := Hid.mk' hS
  have HR := Hid.mk' hr
  clear hss hsp hB hS hr
  have hd1 : (due != due) = false := by simp
  have hd2 : ((n : Int) != (n : Int)) = false := by simp
  have hnq := fun (w : World) => run_neq_slice_nil_any (P := Yba.prog) w 24 25 none 0 0 0 0 Yba.underlying24
  go_wp2_with fail
  go_loopw [22] (fun i wr => ∃ k : Nat, k ≤ n ∧ i = .int .i64 k ∧ ∃ q, wr = w.drewN q) (fun i _ => n - (intOf i).toNat)
  case atStart => exact ⟨0, by omega, rfl, 0, rfl⟩
  case round =>
    obtain ⟨k, hk, rfl, q, rfl⟩ := hrel
    by_cases hlt : k < n
    · obtain ⟨ab, ao, rfl, hc⟩ : ∃ ab ao, a = some ⟨ab, ao, none⟩ ∧ ∀ i, i < n → w.cell? ⟨ab, ao + i * 3, none⟩ = some (.int .i64 (S i)) ∧ w.cell? ⟨ab, ao + i * 3 + 1, none⟩ = some (.int .i64 (E i)) ∧ w.cell? ⟨ab, ao + i * 3 + 2, none⟩ = some (.bool (F i)) := by
        rcases HSP.out with h | h
        · omega
        · exact h
      have e1 := HSS.out k hlt
      have e2 := HR.out k hlt
      unfold ptr at e1 e2
      have e3 : w.cell? ⟨pb + k, 3, none⟩ = some (.bool (F k)) := (HS.out k hlt).cell 3
      have e4 := (hc k hlt).2.2
      clear hc
      have b1 : (0 : Int) ≤ (k : Int) := by omega
      have b2 : (k : Int) < (n : Int) := by omega
      generalize F k = b at e3 e4
      have b4 : (b != b) = false := by simp
      have hq := fun w => ptr_neq ⟨pb + k, 0, none⟩ w
      go_wp2_with fail
      go_quiet (fail)
      go_wp2_with fail
      go_roundw
      case rel => exact ⟨k + 1, by omega, by go_num, _, rfl⟩
      case measure => simp [intOf]; omega
    · go_wp2_with fail
      go_ret
      exact ⟨rfl, below_drewN HB.out q⟩

set_option maxHeartbeats 3200000 in
set_option maxRecDepth 100000 in
theorem law_m (all : Bool) (now due fin : Int) (a : Option Addr) (cp n sb ob hb pb : Nat) (vgot : Value) (f : Nat → Bool) (S E : Nat → Int) (F : Nat → Bool) (w0 w : World) (hn : n ≤ 4096) (hcond : all = true ∨ (all = false ∧ due ≤ now)) (hd : 0 < fin) (hd2 : fin ≤ 3600000) (hn1 : -9223372036854775808 ≤ now) (hn2 : now ≤ 9223372036854775807)
    (hf : ∀ i, f i = (all || decide (E i ≤ now))) (hB : Below w0.heap.size w0 w) (hsp : Spn w a n S E F)
    (hss : ∀ i, i < n → w.cell? ⟨sb, i, none⟩ = some (ptr (pb + i))) (hS : Sls w n pb S E (fun i => if f i = true then false else F i))
    (hgot : Got f n pb S w vgot) (hr1 : ∀ p, p < (Kp f n).length → w.cell? ⟨ob, p, none⟩ = some (ptr (pb + (Kp f n).getD p 0))) (hr2 : ∀ p, (Kp f n).length ≤ p → p < n → w.cell? ⟨ob, p, none⟩ = some (.pointer none))
    (hop : w.cell? ⟨hb, 12, none⟩ = some (.slice (some ⟨ob, 0, none⟩) (Kp f n).length n)) (hdue : w.cell? ⟨hb, 13, none⟩ = some (.int .i64 (dueW now fin)))
    (c3 c5 c6 c7 c8 c9 c10 c11 c15 c17 c18 c21 c22 c23 c24 c25 c26 c27 c28 c29 c30 c31 c32 c33 c34 c35 c36 c37 c38 c39 c40 c41 c42 c43 c44 c45 c46 c47 c48 c49 c50 c51 c52 c53 c54 c55 c56 c57 c58 c59 c60 c61 c62 c63 c64 c65 c66 c67 c68 c69 c70 c71 c72 c73 c74 c75 c76 c77 c78 c79 c80 c81 c82 c83 c84 c85 c86 c87 c88 c89 c90 c91 c92 c93 c94 c95 c96 c97 c98 c99 c100 c101 c102 c103 c104 c105 c106 c107 c108 c109 c110 c111 c112 c113 c114 c115 c116 c117 c118 c119 c120 c121 c122 c123 c124 c125 c126 c127 c128 c129 c130 c131 c132 c133 c134 c135 c136 c137 c138 c139 c140 c141 c142 c143 c144 c145 c146 c147 c148 c149 c150 c151 c152 c153 c154 c155 c156 c157 c158 c159 c160 c161 c162 c163 c164 c165 c166 c167 c168 c169 c170 c171 c172 c173 c174 c175 c176 c177 c178 c179 c180 c181 c182 c183 c184 c185 c186 c187 c188 c189 c190 c191 c192 c193 c194 c195 c196 c197 c198 c199 c200 c201 c202 c203 c204 c205 c206 c207 c208 c209 c210 c211 c212 c213 c214 c215 c216 c217 c218 c219 c220 c221 c222 c223 c224 c225 c226 c227 c228 c229 c230 c231 c232 c233 c234 c235 c236 c237 c238 c239 c240 c241 c242 c243 c244 c245 c246 c247 c248 c249 c250 c251 c252 c253 c254 c255 c256 c257 c258 c259 c260 c261 c262 c263 c264 c265 c266 c267 c268 c269 c270 c271 c272 c273 c274 c275 c276 c277 c278 c279 c280 c281 c282 c283 c284 c285 c286 c287 c288 c289 c290 c291 c292 c293 c294 c295 c296 c297 c298 c299 c300 c301 c302 c303 c304 c305 c306 c307 c308 c309 c310 c311 c312 c313 c314 c315 c316 c317 c318 c319 c320 c321 c322 c323 c324 c325 c326 c327 c328 c329 c330 c331 c332 c333 c334 c335 c336 c337 c338 c339 c340 c341 c342 c343 c344 c345 c346 c347 c348 c349 c350 c351 c352 c353 c354 c355 c356 c357 c358 c359 c360 c361 c362 c363 c364 c365 c366 c367 c368 c369 c370 c371 c372 c373 c374 c375 c376 c377 c378 c379 c380 c381 c382 c383 c384 c385 c386 c387 c388 c389 c390 c391 c392 c393 c394 c395 c396 c397 c398 c399 c400 c401 c402 c403 c404 c405 c406 c407 c408 c409 c410 c411 c412 c413 c414 c415 c416 c417 c418 c419 c420 c421 c422 c423 c424 c425 c426 c427 c428 c429 c430 : Value) :
    Code.wp Yba.prog ((Yba.f3.body.bind (fromR 24)).getD .skip) (bodyPost Yba.prog Yba.f3 (fun e w' => e = .returned (.bool true) ∧ Below w0.heap.size w0 w')) ⟨#[.bool all, .int .i64 now, .int .i64 due, c3, .slice a n cp, c5, c6, c7, c8, c9, c10, c11, .int .i64 fin, .int .i64 (n : Int), .slice (some ⟨sb, 0, none⟩) n n, c15, .slice (some ⟨ob, 0, none⟩) n n, c17, c18, .pointer (some ⟨hb, 0, none⟩), vgot, c21, c22, c23, c24, c25, c26, c27, c28, c29, c30, c31, c32, c33, c34, c35, c36, c37, c38, c39, c40, c41, c42, c43, c44, c45, c46, c47, c48, c49, c50, c51, c52, c53, c54, c55, c56, c57, c58, c59, c60, c61, c62, c63, c64, c65, c66, c67, c68, c69, c70, c71, c72, c73, c74, c75, c76, c77, c78, c79, c80, c81, c82, c83, c84, c85, c86, c87, c88, c89, c90, c91, c92, c93, c94, c95, c96, c97, c98, c99, c100, c101, c102, c103, c104, c105, c106, c107, c108, c109, c110, c111, c112, c113, c114, c115, c116, c117, c118, c119, c120, c121, c122, c123, c124, c125, c126, c127, c128, c129, c130, c131, c132, c133, c134, c135, c136, c137, c138, c139, c140, c141, c142, c143, c144, c145, c146, c147, c148, c149, c150, c151, c152, c153, c154, c155, c156, c157, c158, c159, c160, c161, c162, c163, c164, c165, c166, c167, c168, c169, c170, c171, c172, c173, c174, c175, c176, c177, c178, c179, c180, c181, c182, c183, c184, c185, c186, c187, c188, c189, c190, c191, c192, c193, c194, c195, c196, c197, c198, c199, c200, c201, c202, c203, c204, c205, c206, c207, c208, c209, c210, c211, c212, c213, c214, c215, c216, c217, c218, c219, c220, c221, c222, c223, c224, c225, c226, c227, c228, c229, c230, c231, c232, c233, c234, c235, c236, c237, c238, c239, c240, c241, c242, c243, c244, c245, c246, c247, c248, c249, c250, c251, c252, c253, c254, c255, c256, c257, c258, c259, c260, c261, c262, c263, c264, c265, c266, c267, c268, c269, c270, c271, c272, c273, c274, c275, c276, c277, c278, c279, c280, c281, c282, c283, c284, c285, c286, c287, c288, c289, c290, c291, c292, c293, c294, c295, c296, c297, c298, c299, c300, c301, c302, c303, c304, c305, c306, c307, c308, c309, c310, c311, c312, c313, c314, c315, c316, c317, c318, c319, c320, c321, c322, c323, c324, c325, c326, c327, c328, c329, c330, c331, c332, c333, c334, c335, c336, c337, c338, c339, c340, c341, c342, c343, c344, c345, c346, c347, c348, c349, c350, c351, c352, c353, c354, c355, c356, c357, c358, c359, c360, c361, c362, c363, c364, c365, c366, c367, c368, c369, c370, c371, c372, c373, c374, c375, c376, c377, c378, c379, c380, c381, c382, c383, c384, c385, c386, c387, c388, c389, c390, c391, c392, c393, c394, c395, c396, c397, c398, c399, c400, c401, c402, c403, c404, c405, c406, c407, c408, c409, c410, c411, c412, c413, c414, c415, c416, c417, c418, c419, c420, c421, c422, c423, c424, c425, c426, c427, c428, c429, c430], []⟩ w := by
  conv => arg 2; whnf
  have HF := Hid.mk' hf
  have HSS := Hid.mk' hss
  have HSP := Hid.mk' hsp
  have HB := Hid.mk' hB
  have HS := Hid.mk' hS
  have HR1 := Hid.mk' hr1
  have HR2 := Hid.mk' hr2
  have HG := Hid.mk' hgot
  have HOP := Hid.mk' hop
  clear hf hss hsp hB hS hr1 hr2 hgot hop
  by_cases htm : now.tmod fin < 0
  · have hneg := tmod_neg htm
    have e : dueW now fin = wrap64 (wrap64 (wrap64 (now.tdiv fin - 1) + 1) * fin) := by unfold dueW divW; rw [if_pos htm]
    rw [e] at hdue
    clear e
    have hxx : ∀ x : Int, (x != x) = false := fun x => by simp
    have hm0 : (now.tmod fin != 0) = true := by simp; omega
    rcases hcond with rfl | ⟨rfl, hle⟩
    all_goals
      go_upto_region 36 with fail
      rename ∀ (a : Act) (w : World), Code.wp Yba.prog (Code.seq (Code.region 38 _ _) _) _ a w → _ => hK2
      have HK2 := Hid.mk' hK2
      clear hK2
      go_wp2_with fail
      refine HK2.out _ _ ?_
      exact law_t4 _ now a cp n sb ob hb pb vgot f S E F w0 w hn HF.out HB.out HSP.out HSS.out HS.out HG.out HR1.out HR2.out HOP.out _ _ _ _ _ _ _ _ _ _ _ _ _ _ _ _ _ _ _ _ _ _ _ _ _ _ _ _ _ _ _ _ _ _ _ _ _ _ _ _ _ _ _ _ _ _ _ _ _ _ _ _ _ _ _ _ _ _ _ _ _ _ _ _ _ _ _ _ _ _ _ _ _ _ _ _ _ _ _ _ _ _ _ _ _ _ _ _ _ _ _ _ _ _ _ _ _ _ _ _ _ _ _ _ _ _ _ _ _ _ _ _ _ _ _ _ _ _ _ _ _ _ _ _ _ _ _ _ _ _ _ _ _ _ _ _ _ _ _ _ _ _ _ _ _ _ _ _ _ _ _ _ _ _ _ _ _ _ _ _ _ _ _ _ _ _ _ _ _ _ _ _ _ _ _ _ _ _ _ _ _ _ _ _ _ _ _ _ _ _ _ _ _ _ _ _ _ _ _ _ _ _ _ _ _ _ _ _ _ _ _ _ _ _ _ _ _ _ _ _ _ _ _ _ _ _ _ _ _ _ _ _ _ _ _ _ _ _ _ _ _ _ _ _ _ _ _ _ _ _ _ _ _ _ _ _ _ _ _ _ _ _ _ _ _ _ _ _ _ _ _ _ _ _ _ _ _ _ _ _ _ _ _ _ _ _ _ _ _ _ _ _ _ _ _ _ _ _ _ _ _ _ _ _ _ _ _ _ _ _ _ _ _ _ _ _ _ _ _ _ _ _ _ _ _ _ _ _ _ _ _ _ _ _ _ _ _ _ _ _ _ _ _ _ _ _ _ _ _ _ _ _ _ _ _ _ _ _ _ _ _ _ _ _ _ _ _ _ _ _ _ _ _ _ _ _ _ _ _ _ _ _ _ _ _ _ _ _ _ _ _ _ _ _ _ _ _ _ _ _ _ _ _ _ _ _ _ _ _ _ _ _ _ _ _ _ _ _ _ _ _ _ _
  · have e : dueW now fin = wrap64 (wrap64 (now.tdiv fin + 1) * fin) := by unfold dueW divW; rw [if_neg htm]
    rw [e] at hdue
    clear e
    have hxx : ∀ x : Int, (x != x) = false := fun x => by simp
    by_cases hneg : now < 0
    · have hz := tmod_zero (d := fin) (by omega) hneg
      rcases hcond with rfl | ⟨rfl, hle⟩
      all_goals
        go_upto_region 36 with fail
        rename ∀ (a : Act) (w : World), Code.wp Yba.prog (Code.seq (Code.region 38 _ _) _) _ a w → _ => hK2
        have HK2 := Hid.mk' hK2
        clear hK2
        go_wp2_with fail
        refine HK2.out _ _ ?_
        exact law_t4 _ now a cp n sb ob hb pb vgot f S E F w0 w hn HF.out HB.out HSP.out HSS.out HS.out HG.out HR1.out HR2.out HOP.out _ _ _ _ _ _ _ _ _ _ _ _ _ _ _ _ _ _ _ _ _ _ _ _ _ _ _ _ _ _ _ _ _ _ _ _ _ _ _ _ _ _ _ _ _ _ _ _ _ _ _ _ _ _ _ _ _ _ _ _ _ _ _ _ _ _ _ _ _ _ _ _ _ _ _ _ _ _ _ _ _ _ _ _ _ _ _ _ _ _ _ _ _ _ _ _ _ _ _ _ _ _ _ _ _ _ _ _ _ _ _ _ _ _ _ _ _ _ _ _ _ _ _ _ _ _ _ _ _ _ _ _ _ _ _ _ _ _ _ _ _ _ _ _ _ _ _ _ _ _ _ _ _ _ _ _ _ _ _ _ _ _ _ _ _ _ _ _ _ _ _ _ _ _ _ _ _ _ _ _ _ _ _ _ _ _ _ _ _ _ _ _ _ _ _ _ _ _ _ _ _ _ _ _ _ _ _ _ _ _ _ _ _ _ _ _ _ _ _ _ _ _ _ _ _ _ _ _ _ _ _ _ _ _ _ _ _ _ _ _ _ _ _ _ _ _ _ _ _ _ _ _ _ _ _ _ _ _ _ _ _ _ _ _ _ _ _ _ _ _ _ _ _ _ _ _ _ _ _ _ _ _ _ _ _ _ _ _ _ _ _ _ _ _ _ _ _ _ _ _ _ _ _ _ _ _ _ _ _ _ _ _ _ _ _ _ _ _ _ _ _ _ _ _ _ _ _ _ _ _ _ _ _ _ _ _ _ _ _ _ _ _ _ _ _ _ _ _ _ _ _ _ _ _ _ _ _ _ _ _ _ _ _ _ _ _ _ _ _ _ _ _ _ _ _ _ _ _ _ _ _ _ _ _ _ _ _ _ _ _ _ _ _ _ _ _ _ _ _ _ _ _ _ _ _ _ _ _ _ _ _ _ _ _ _ _ _ _ _ _ _ _ _
    · rw [Int.tdiv_eq_ediv_of_nonneg (by omega)] at hdue
      rcases hcond with rfl | ⟨rfl, hle⟩
      all_goals
        go_upto_region 36 with fail
        rename ∀ (a : Act) (w : World), Code.wp Yba.prog (Code.seq (Code.region 38 _ _) _) _ a w → _ => hK2
        have HK2 := Hid.mk' hK2
        clear hK2
        go_wp2_with fail
        refine HK2.out _ _ ?_
        exact law_t4 _ now a cp n sb ob hb pb vgot f S E F w0 w hn HF.out HB.out HSP.out HSS.out HS.out HG.out HR1.out HR2.out HOP.out _ _ _ _ _ _ _ _ _ _ _ _ _ _ _ _ _ _ _ _ _ _ _ _ _ _ _ _ _ _ _ _ _ _ _ _ _ _ _ _ _ _ _ _ _ _ _ _ _ _ _ _ _ _ _ _ _ _ _ _ _ _ _ _ _ _ _ _ _ _ _ _ _ _ _ _ _ _ _ _ _ _ _ _ _ _ _ _ _ _ _ _ _ _ _ _ _ _ _ _ _ _ _ _ _ _ _ _ _ _ _ _ _ _ _ _ _ _ _ _ _ _ _ _ _ _ _ _ _ _ _ _ _ _ _ _ _ _ _ _ _ _ _ _ _ _ _ _ _ _ _ _ _ _ _ _ _ _ _ _ _ _ _ _ _ _ _ _ _ _ _ _ _ _ _ _ _ _ _ _ _ _ _ _ _ _ _ _ _ _ _ _ _ _ _ _ _ _ _ _ _ _ _ _ _ _ _ _ _ _ _ _ _ _ _ _ _ _ _ _ _ _ _ _ _ _ _ _ _ _ _ _ _ _ _ _ _ _ _ _ _ _ _ _ _ _ _ _ _ _ _ _ _ _ _ _ _ _ _ _ _ _ _ _ _ _ _ _ _ _ _ _ _ _ _ _ _ _ _ _ _ _ _ _ _ _ _ _ _ _ _ _ _ _ _ _ _ _ _ _ _ _ _ _ _ _ _ _ _ _ _ _ _ _ _ _ _ _ _ _ _ _ _ _ _ _ _ _ _ _ _ _ _ _ _ _ _ _ _ _ _ _ _ _ _ _ _ _ _ _ _ _ _ _ _ _ _ _ _ _ _ _ _ _ _ _ _ _ _ _ _ _ _ _ _ _ _ _ _ _ _ _ _ _ _ _ _ _ _ _ _ _ _ _ _ _ _ _ _ _ _ _ _ _ _ _ _ _ _ _ _ _ _ _ _ _ _ _ _ _ _ _ _
end Go.Proofs.Ybulkedjq
