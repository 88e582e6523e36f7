import Derived.Test.YbulkedjqLawKit
namespace Go.Proofs.Ybulkedjq
open Go.RowKit

set_option maxHeartbeats 3200000 in
set_option maxRecDepth 100000 in
theorem law_t8 (n sb cb pb : Nat) (vgot : Value) (f : Nat → Bool) (S E : Nat → Int) (F : Nat → Bool) (w0 w : World) (hn : n ≤ 4096) (hB : Below w0.heap.size w0 w)
    (hss : ∀ i, i < n → w.cell? ⟨sb, i, none⟩ = some (ptr (pb + i))) (hcl : ∀ i, i < n → w.cell? ⟨cb, i, none⟩ = some (.bool (f i))) (hS : Sls w n pb S E F)
    (hgot : Got f n pb S w vgot)
    (c0 c1 c2 c3 c4 c5 c6 c7 c8 c9 c10 c11 c12 c15 c16 c17 c18 c19 c21 c22 c23 c26 c27 c28 c29 c30 c31 c32 c33 c34 c35 c36 c37 c38 c39 c40 c41 c42 c43 c44 c45 c46 c47 c48 c49 c50 c51 c52 c53 c54 c55 c56 c57 c58 c59 c60 c61 c62 c63 c64 c65 c66 c67 c68 c69 c70 c71 c72 c73 c74 c75 c76 c77 c78 c79 c80 c81 c82 c83 c84 c85 c86 c87 c88 c89 c90 c91 c92 c93 c94 c95 c96 c97 c98 c99 c100 c101 c102 c103 c104 c105 c106 c107 c108 c109 c110 c111 c112 c113 c114 c115 c116 c117 c118 c119 c120 c121 c122 c123 c124 c125 c126 c127 c128 c129 c130 c131 c132 c133 c134 c135 c136 c137 c138 c139 c140 c141 c142 c143 c144 c145 c146 c147 c148 c149 c150 c151 c152 c153 c154 c155 c156 c157 c158 c159 c160 c161 c162 c163 c164 c165 c166 c167 c168 c169 c170 c171 c172 c173 c174 c175 c176 c177 c178 c179 c180 c181 c182 c183 c184 c185 c186 c187 c188 c189 c190 c191 c192 c193 c194 c195 c196 c197 c198 c199 c200 c201 c202 c203 c204 c205 c206 c207 c208 c209 c210 c211 c212 c213 c214 c215 c216 c217 c218 c219 c220 c221 c222 c223 c224 c225 c226 c227 c228 c229 c230 c231 c232 c233 c234 c235 c236 c237 c238 c239 c240 c241 c242 c243 c244 c245 c246 c247 c248 c249 c250 c251 c252 c253 c254 c255 c256 c257 c258 c259 c260 c261 c262 c263 c264 c265 c266 c267 c268 c269 c270 c271 c272 c273 c274 c275 c276 c277 c278 c279 c280 c281 c282 c283 c284 c285 c286 c287 c288 c289 c290 c291 c292 c293 c294 c295 c296 c297 c298 c299 c300 c301 c302 c303 c304 c305 c306 c307 c308 c309 c310 c311 c312 c313 c314 c315 c316 c317 c318 c319 c320 c321 c322 c323 c324 c325 c326 c327 c328 c329 c330 c331 c332 c333 c334 c335 c336 c337 c338 c339 c340 c341 c342 c343 c344 c345 c346 c347 c348 c349 c350 c351 c352 c353 c354 c355 c356 c357 c358 c359 c360 c361 c362 c363 c364 c365 c366 c367 c368 c369 c370 c371 c372 c373 c374 c375 c376 c377 c378 c379 c380 c381 c382 c383 c384 c385 c386 c387 c388 c389 c390 c391 c392 c393 c394 c395 c396 c397 c398 c399 c400 c401 c402 c403 c404 c405 c406 c407 c408 c409 c410 c411 c412 c413 c414 c415 c416 c417 c418 c419 c420 c421 c422 c423 c424 c425 c426 c427 c428 c429 c430 : Value) :
    Code.wp Yba.prog ((Yba.f3.body.bind (fromR 68)).getD .skip) (bodyPost Yba.prog Yba.f3 (fun e w' => e = .returned (.bool true) ∧ Below w0.heap.size w0 w')) ⟨#[c0, c1, c2, c3, c4, c5, c6, c7, c8, c9, c10, c11, c12, .int .i64 (n : Int), .slice (some ⟨sb, 0, none⟩) n n, c15, c16, c17, c18, c19, vgot, c21, c22, c23, .slice (some ⟨cb, 0, none⟩) n n, .int .i64 ((Cl f n).length : Int), c26, c27, c28, c29, c30, c31, c32, c33, c34, c35, c36, c37, c38, c39, c40, c41, c42, c43, c44, c45, c46, c47, c48, c49, c50, c51, c52, c53, c54, c55, c56, c57, c58, c59, c60, c61, c62, c63, c64, c65, c66, c67, c68, c69, c70, c71, c72, c73, c74, c75, c76, c77, c78, c79, c80, c81, c82, c83, c84, c85, c86, c87, c88, c89, c90, c91, c92, c93, c94, c95, c96, c97, c98, c99, c100, c101, c102, c103, c104, c105, c106, c107, c108, c109, c110, c111, c112, c113, c114, c115, c116, c117, c118, c119, c120, c121, c122, c123, c124, c125, c126, c127, c128, c129, c130, c131, c132, c133, c134, c135, c136, c137, c138, c139, c140, c141, c142, c143, c144, c145, c146, c147, c148, c149, c150, c151, c152, c153, c154, c155, c156, c157, c158, c159, c160, c161, c162, c163, c164, c165, c166, c167, c168, c169, c170, c171, c172, c173, c174, c175, c176, c177, c178, c179, c180, c181, c182, c183, c184, c185, c186, c187, c188, c189, c190, c191, c192, c193, c194, c195, c196, c197, c198, c199, c200, c201, c202, c203, c204, c205, c206, c207, c208, c209, c210, c211, c212, c213, c214, c215, c216, c217, c218, c219, c220, c221, c222, c223, c224, c225, c226, c227, c228, c229, c230, c231, c232, c233, c234, c235, c236, c237, c238, c239, c240, c241, c242, c243, c244, c245, c246, c247, c248, c249, c250, c251, c252, c253, c254, c255, c256, c257, c258, c259, c260, c261, c262, c263, c264, c265, c266, c267, c268, c269, c270, c271, c272, c273, c274, c275, c276, c277, c278, c279, c280, c281, c282, c283, c284, c285, c286, c287, c288, c289, c290, c291, c292, c293, c294, c295, c296, c297, c298, c299, c300, c301, c302, c303, c304, c305, c306, c307, c308, c309, c310, c311, c312, c313, c314, c315, c316, c317, c318, c319, c320, c321, c322, c323, c324, c325, c326, c327, c328, c329, c330, c331, c332, c333, c334, c335, c336, c337, c338, c339, c340, c341, c342, c343, c344, c345, c346, c347, c348, c349, c350, c351, c352, c353, c354, c355, c356, c357, c358, c359, c360, c361, c362, c363, c364, c365, c366, c367, c368, c369, c370, c371, c372, c373, c374, c375, c376, c377, c378, c379, c380, c381, c382, c383, c384, c385, c386, c387, c388, c389, c390, c391, c392, c393, c394, c395, c396, c397, c398, c399, c400, c401, c402, c403, c404, c405, c406, c407, c408, c409, c410, c411, c412, c413, c414, c415, c416, c417, c418, c419, c420, c421, c422, c423, c424, c425, c426, c427, c428, c429, c430], []⟩ w := by
  conv => arg 2; whnf
  have hl : (Cl f n).length ≤ n := by have := Cl_Kp f n; omega
  rcases hgot with ⟨h0, rfl⟩ | ⟨g, cap, c', rfl, h0, hperm, hsrt, hg⟩
  · have h1 : (Cl f n).length = 0 := by rw [h0]; rfl
    have heq := fun (w : World) => Lib.run_eql_slice_nil (P := Yba.prog) w 24 25 none 0 0 0 0 Yba.underlying24
    go_wp2_with fail
    go_ret
    exact ⟨rfl, hB⟩
  · obtain ⟨i4, hi, hz0, hz1, hz2⟩ := info_parts info4
    have h1 : (Cl f n).length ≠ 0 := fun e => h0 (List.eq_nil_of_length_eq_zero e)
    have HSS := Hid.mk' hss
    have HCL := Hid.mk' hcl
    have HS := Hid.mk' hS
    have HG := Hid.mk' hg
    have HB := Hid.mk' hB
    have HP := Hid.mk' hperm
    have HSRT := Hid.mk' hsrt
    have HLEN := Hid.mk' hperm.length_eq
    clear hss hcl hS hg hB hperm hsrt
    go_wp2_with (at_make; refine wpList_make_full _ rfl _ _ 39 rfl w.heap.size 4 i4 (.bool false) 1 Yba.underlying39 hi hz0 hz1 _ _ _ _ n rfl rfl (by omega) (by omega) (by rw [hz2]; omega) (by unfold maxLen; omega) (by simp) ?_)
    intro w1 hown1 hgrow1
    have HU := Hid.mk' (made_blk (z := .bool false) hown1)
    have HK1 := Hid.mk' (Keep.grown hgrow1)
    clear hown1 hgrow1
    generalize (Cl f n).length = k at *
    go_wp2_with fail
    go_loopw [32] (fun i wr => ∃ j : Nat, j ≤ k ∧ i = .int .i64 j ∧ (∃ U, Blk wr w.heap.size 4 U ∧ U.size = n ∧ ∀ i, i < n → U[i]? = some (.bool (decide (i ∈ c'.take j)))) ∧ Keep (· = w.heap.size) w1 wr) (fun i _ => k - (intOf i).toNat)
    case atStart => exact ⟨0, by omega, rfl, ⟨_, HU.out, by simp, fun i hi => by simp [hi]⟩, Keep.refl _ _⟩
    case round =>
      obtain ⟨j, hj, rfl, hU, hK⟩ := hrel
      have HUR := Hid.mk' hU
      have HKR := Hid.mk' hK
      clear hU hK
      by_cases hlt : j < k
      · have HT : Hid (c'.getD j 0 < n ∧ f (c'.getD j 0) = true) := by
          have := HLEN.out
          have hm : c'.getD j 0 ∈ Cl f n := HP.out.mem_iff.1 (by rw [List.getD, List.getElem?_eq_getElem (by omega)]; exact List.getElem_mem _)
          exact mem_Cl.1 hm
        have KW : Hid (∀ a v, w.cell? a = some v → wr.cell? a = some v) := fun a v h => HKR.out.cell (HK1.out.cell h (by intro e; cases e)) (Nat.ne_of_lt (World.block_lt_of_cell? w a h))
        have e2 : wr.cell? ⟨g, j, none⟩ = some (.pointer (some ⟨pb + c'.getD j 0, 0, none⟩)) := KW.out _ _ (HG.out j (by have := HLEN.out; omega))
        have HJ : Hid (c'.getD j 0 ∉ c'.take j) := not_mem_take (HP.out.nodup_iff.2 (nodup_Cl f n)) (by have := HLEN.out; omega)
        have KB : Hid (∀ i, i < n → Blk wr (pb + i) 30 #[.int .i64 (S i), .int .i64 (E i), .pointer none, .bool (F i)]) := fun i hi => HKR.out.blk (HK1.out.blk (HS.out i hi) (by intro e; cases e)) (Nat.ne_of_lt (HS.out i hi).lt)
        obtain ⟨t, ht⟩ : ∃ t, c'.getD j 0 = t := ⟨_, rfl⟩
        rw [ht] at HT e2 HJ
        have HTE := Hid.mk' ht
        clear ht
        have htn : t < n := HT.out.1
        go_wp2_with fail
        go_loopw [33, 34] (fun s33 i w2 => ∃ m : Nat, m ≤ t ∧ i = .int .i64 m ∧ s33 = .int .i64 (-1) ∧ ∃ q, w2 = wr.drewN q) (fun _ i _ => n - (intOf i).toNat)
        case atStart => exact ⟨0, by omega, rfl, rfl, 0, rfl⟩
        case round =>
          obtain ⟨m, hm, rfl, rfl, q, rfl⟩ := hrel
          have hmn : m < n := by omega
          have e1 : wr.cell? ⟨sb, m, none⟩ = some (.pointer (some ⟨pb + m, 0, none⟩)) := KW.out _ _ (HSS.out m hmn)
          have b1 : (0 : Int) ≤ (m : Int) := by omega
          have b2 : (m : Int) < (n : Int) := by omega
          have b3 : (0 : Int) ≤ (j : Int) := by omega
          have b4 : (j : Int) < (k : Int) := by omega
          by_cases hmt : m = t
          · subst hmt
            have heq := fun w => ptr_eql ⟨pb + m, 0, none⟩ w
            obtain ⟨U, bU, hUs, hUc⟩ := HUR.out
            have e5 : wr.cell? ⟨cb, m, none⟩ = some (.bool true) := by rw [KW.out _ _ (HCL.out m hmn), HT.out.2]
            have e6 : wr.cell? ⟨w.heap.size, m, none⟩ = some (.bool false) := by
              rw [bU.cell m, hUc m hmn]
              simp only [HJ.out, decide_false]
            have e7 : wr.frozen? ⟨w.heap.size, m, none⟩ = false := bU.frozen m
            have HBU := Hid.mk' bU
            have HUS := Hid.mk' hUs
            have HUC := Hid.mk' hUc
            clear bU hUs hUc
            go_wp2_with fail
            go_quiet (fail)
            go_upto_region 85 with fail
            have HW5 : Hid (Keep (· = w.heap.size) wr ((wr.drewN (q + nq)).setCell ⟨w.heap.size, m, none⟩ (.bool true))) := ((Keep.refl _ wr).drewN (q + nq)).trans (Keep.set _ _ _ _)
            have BU5 := Hid.mk' ((HBU.out.drewN (q + nq)).set m (.bool true))
            generalize (wr.drewN (q + nq)).setCell ⟨w.heap.size, m, none⟩ (.bool true) = w5 at *
            have KW5 : Hid (∀ a v, w.cell? a = some v → w5.cell? a = some v) := fun a v h => HW5.out.cell (KW.out a v h) (Nat.ne_of_lt (World.block_lt_of_cell? w a h))
            have HREL : Hid (∃ U, Blk w5 w.heap.size 4 U ∧ U.size = n ∧ ∀ i, i < n → U[i]? = some (.bool (decide (i ∈ c'.take (j + 1))))) := by
              refine ⟨_, BU5.out, by simpa using HUS.out, fun i hi => ?_⟩
              have hjl : j < c'.length := by have := HLEN.out; omega
              by_cases e : i = m
              · subst e
                rw [Array.getElem?_setIfInBounds_self_of_lt (by have := HUS.out; omega), decide_eq_true]
                exact (take_mem_succ c' j i hjl).2 (Or.inr HTE.out.symm)
              · rw [Array.getElem?_setIfInBounds_ne (by omega), HUC.out i hi]
                congr 2
                rw [decide_eq_decide, take_mem_succ c' j i hjl, HTE.out]
                simp [e]
            clear e5 e6 e7 e1 e2 heq BU5
            have f2 : w5.cell? ⟨g, j, none⟩ = some (.pointer (some ⟨pb + m, 0, none⟩)) := by rw [KW5.out _ _ (HG.out j (by have := HLEN.out; omega)), HTE.out]; rfl
            have f4 : w5.cell? ⟨pb + m, 0, none⟩ = some (.int .i64 (S m)) := KW5.out _ _ ((HS.out m hmn).cell 0)
            by_cases hj0 : j = 0
            · subst hj0
              go_quiet (fail)
              go_wp2_with fail
              go_roundw
              case rel => exact ⟨1, by omega, by go_num, HREL.out, (HKR.out.trans HW5.out).drewN _⟩
              case measure => simp [intOf]; omega
            · have HT2 : Hid (c'.getD (j - 1) 0 < n) := by
                have := HLEN.out
                have hm : c'.getD (j - 1) 0 ∈ Cl f n := HP.out.mem_iff.1 (by rw [List.getD, List.getElem?_eq_getElem (by omega)]; exact List.getElem_mem _)
                exact (mem_Cl.1 hm).1
              have f1 : w5.cell? ⟨g, j - 1, none⟩ = some (.pointer (some ⟨pb + c'.getD (j - 1) 0, 0, none⟩)) := KW5.out _ _ (HG.out (j - 1) (by have := HLEN.out; omega))
              have f3 : w5.cell? ⟨pb + c'.getD (j - 1) 0, 0, none⟩ = some (.int .i64 (S (c'.getD (j - 1) 0))) := KW5.out _ _ ((HS.out _ HT2.out).cell 0)
              have hle : S (c'.getD (j - 1) 0) ≤ S m := by rw [← HTE.out]; exact HSRT.out (j - 1) j (by omega) (by have := HLEN.out; omega)
              generalize c'.getD (j - 1) 0 = t1 at *
              have hw : IntKind.i64.wrap ((j : Int) - 1) = (j : Int) - 1 := by rw [IntKind.wrap_i64]; omega
              have htn : ((j : Int) - 1).toNat = j - 1 := by omega
              have b5 : (0 : Int) ≤ (j : Int) - 1 := by omega
              have b6 : (j : Int) - 1 < (k : Int) := by omega
              have b7 : 0 < j := by omega
              have b8 : decide ((0 : Int) < (j : Int)) = true := decide_eq_true (by omega)
              go_quiet (fail)
              go_wp2_with fail
              go_roundw
              case rel => exact ⟨j + 1, by omega, by go_num, HREL.out, (HKR.out.trans HW5.out).drewN _⟩
              case measure => simp [intOf]; omega
          · have heq := ptr_other (show pb + m ≠ pb + t by omega) (KB.out m hmn) (KB.out t htn)
            go_wp2_with fail
            go_quiet (fail)
            go_wp2_with fail
            go_roundw
            case rel => exact ⟨m + 1, by omega, by go_num, rfl, _, rfl⟩
            case measure => simp [intOf]; omega
      · go_wp2_with fail
        go_ret
        exact ⟨rfl, HB.out.trans ((HK1.out.below HB.out.size (fun k _ e => by cases e)).trans (HKR.out.below (Nat.le_trans HB.out.size HK1.out.size) (fun k hk e => by have := HB.out.size; omega)))⟩
end Go.Proofs.Ybulkedjq
