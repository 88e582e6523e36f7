import Derived.Test.YbulkedjqT5
namespace Go.Proofs.Ybulkedjq
open Go.RowKit

/-- The loop that parts the slices, m of them seen. -/
structure KInv (w1 : World) (cb pb n : Nat) (f : Nat → Bool) (m : Nat) (v : Value) (wr : World) : Prop where
  own : wr.ownsRow w1.heap.size 25 1 v (Kp f m).length ((Kp f m).map fun i => ptr (pb + i))
  cl : ∃ U, Blk wr cb 4 U ∧ U.size = n ∧ ∀ i, i < n → U[i]? = some (.bool (decide (i < m) && f i))
  keep : Keep (· = cb) w1 wr

theorem KInv.t {w1 : World} {cb pb n : Nat} {f : Nat → Bool} {m : Nat} {v : Value} {wr : World} (h : KInv w1 cb pb n f m v wr) (hc : cb < w1.heap.size) (hm : m < n) (hf : f m = true) : KInv w1 cb pb n f (m + 1) v (wr.setCell ⟨cb, m, none⟩ (.bool true)) := by
  refine ⟨?_, ?_, h.keep.trans (Keep.set _ _ _ _)⟩
  · rw [Kp_t hf]; exact ownsRow_setCell_below h.own hc _
  · obtain ⟨U, bU, hs, hu⟩ := h.cl
    refine ⟨_, bU.set m (.bool true), by simpa using hs, fun i hi => ?_⟩
    by_cases e : i = m
    · subst e
      rw [Array.getElem?_setIfInBounds_self_of_lt (by omega)]
      simp [hf]
    · rw [Array.getElem?_setIfInBounds_ne (by omega), hu i hi]
      have : (i < m + 1) ↔ (i < m) := by omega
      simp only [this]

theorem KInv.f {w1 : World} {cb pb n : Nat} {f : Nat → Bool} {m : Nat} {v : Value} {wr : World} (h : KInv w1 cb pb n f m v wr) (hc : cb < w1.heap.size) (hf : f m = false) (o : Obj) {v' : Value} {w' : World}
    (hown : w'.ownsRow w1.heap.size 25 1 v' ((Kp f m).length + 1) ((Kp f m).map (fun i => ptr (pb + i)) ++ [ptr (pb + m)])) (hg : (wr.alloc o).grownBy w' v.ownBlock) : KInv w1 cb pb n f (m + 1) v' w' := by
  have hk : Keep (fun k => w1.heap.size ≤ k) wr w' := ((Keep.alloc wr o).mono fun _ _ e => e.elim).trans ((Keep.grown hg).mono fun k _ e => own_ge h.own e)
  refine ⟨?_, ?_, h.keep.then hk fun k hk e => by omega⟩
  · rw [Kp_f hf, List.length_append, List.map_append]; exact hown
  · obtain ⟨U, bU, hs, hu⟩ := h.cl
    refine ⟨U, hk.blk bU (by omega), hs, fun i hi => ?_⟩
    rw [hu i hi]
    by_cases e : i = m
    · subst e; simp [hf]
    · have : (i < m + 1) ↔ (i < m) := by omega
      simp only [this]

theorem KInv.kept {w1 : World} {cb pb n : Nat} {f : Nat → Bool} {v : Value} {wr : World} (h : KInv w1 cb pb n f n v wr) : Kept f n pb wr v := by
  obtain ⟨hl, ho⟩ := h.own
  rcases ho with ⟨_, h0⟩ | ⟨g, cap, cur, hv, _, hh, _, _, _, ht⟩
  · exact Or.inl (List.eq_nil_of_length_eq_zero h0)
  · refine Or.inr ⟨g, cap, hv, fun p hp => ?_⟩
    have bG : Blk wr g 25 cur := hh
    rw [bG.cell]
    have e : cur.toList[p]? = ((Kp f n).map fun i => ptr (pb + i))[p]? := by
      rw [← ht, List.getElem?_take_of_lt (by omega)]
    rw [Array.getElem?_toList] at e
    rw [e, List.getElem?_map]
    simp [List.getD, hp]

set_option maxHeartbeats 3200000 in
set_option maxRecDepth 100000 in
theorem law_t4 (all : Bool) (now : Int) (a : Option Addr) (cp n sb ob hb pb : Nat) (vgot : Value) (f : Nat → Bool) (S E : Nat → Int) (F : Nat → Bool) (w0 w : World) (hn : n ≤ 4096) (hf : ∀ i, f i = (all || decide (E i ≤ now))) (hB : Below w0.heap.size w0 w) (hsp : Spn w a n S E F)
    (hss : ∀ i, i < n → w.cell? ⟨sb, i, none⟩ = some (ptr (pb + i))) (hS : Sls w n pb S E (fun i => if f i = true then false else F i))
    (hgot : Got f n pb S w vgot) (hr1 : ∀ p, p < (Kp f n).length → w.cell? ⟨ob, p, none⟩ = some (ptr (pb + (Kp f n).getD p 0))) (hr2 : ∀ p, (Kp f n).length ≤ p → p < n → w.cell? ⟨ob, p, none⟩ = some (.pointer none))
    (hop : w.cell? ⟨hb, 12, none⟩ = some (.slice (some ⟨ob, 0, none⟩) (Kp f n).length n))
    (c2 c3 c5 c6 c7 c8 c9 c10 c11 c12 c15 c17 c18 c21 c22 c23 c24 c25 c26 c27 c28 c29 c30 c31 c32 c33 c34 c35 c36 c37 c38 c39 c40 c41 c42 c43 c44 c45 c46 c47 c48 c49 c50 c51 c52 c53 c54 c55 c56 c57 c58 c59 c60 c61 c62 c63 c64 c65 c66 c67 c68 c69 c70 c71 c72 c73 c74 c75 c76 c77 c78 c79 c80 c81 c82 c83 c84 c85 c86 c87 c88 c89 c90 c91 c92 c93 c94 c95 c96 c97 c98 c99 c100 c101 c102 c103 c104 c105 c106 c107 c108 c109 c110 c111 c112 c113 c114 c115 c116 c117 c118 c119 c120 c121 c122 c123 c124 c125 c126 c127 c128 c129 c130 c131 c132 c133 c134 c135 c136 c137 c138 c139 c140 c141 c142 c143 c144 c145 c146 c147 c148 c149 c150 c151 c152 c153 c154 c155 c156 c157 c158 c159 c160 c161 c162 c163 c164 c165 c166 c167 c168 c169 c170 c171 c172 c173 c174 c175 c176 c177 c178 c179 c180 c181 c182 c183 c184 c185 c186 c187 c188 c189 c190 c191 c192 c193 c194 c195 c196 c197 c198 c199 c200 c201 c202 c203 c204 c205 c206 c207 c208 c209 c210 c211 c212 c213 c214 c215 c216 c217 c218 c219 c220 c221 c222 c223 c224 c225 c226 c227 c228 c229 c230 c231 c232 c233 c234 c235 c236 c237 c238 c239 c240 c241 c242 c243 c244 c245 c246 c247 c248 c249 c250 c251 c252 c253 c254 c255 c256 c257 c258 c259 c260 c261 c262 c263 c264 c265 c266 c267 c268 c269 c270 c271 c272 c273 c274 c275 c276 c277 c278 c279 c280 c281 c282 c283 c284 c285 c286 c287 c288 c289 c290 c291 c292 c293 c294 c295 c296 c297 c298 c299 c300 c301 c302 c303 c304 c305 c306 c307 c308 c309 c310 c311 c312 c313 c314 c315 c316 c317 c318 c319 c320 c321 c322 c323 c324 c325 c326 c327 c328 c329 c330 c331 c332 c333 c334 c335 c336 c337 c338 c339 c340 c341 c342 c343 c344 c345 c346 c347 c348 c349 c350 c351 c352 c353 c354 c355 c356 c357 c358 c359 c360 c361 c362 c363 c364 c365 c366 c367 c368 c369 c370 c371 c372 c373 c374 c375 c376 c377 c378 c379 c380 c381 c382 c383 c384 c385 c386 c387 c388 c389 c390 c391 c392 c393 c394 c395 c396 c397 c398 c399 c400 c401 c402 c403 c404 c405 c406 c407 c408 c409 c410 c411 c412 c413 c414 c415 c416 c417 c418 c419 c420 c421 c422 c423 c424 c425 c426 c427 c428 c429 c430 : Value) :
    Code.wp Yba.prog ((Yba.f3.body.bind (fromR 38)).getD .skip) (bodyPost Yba.prog Yba.f3 (fun e w' => e = .returned (.bool true) ∧ Below w0.heap.size w0 w')) ⟨#[.bool all, .int .i64 now, c2, c3, .slice a n cp, c5, c6, c7, c8, c9, c10, c11, c12, .int .i64 (n : Int), .slice (some ⟨sb, 0, none⟩) n n, c15, .slice (some ⟨ob, 0, none⟩) n n, c17, c18, .pointer (some ⟨hb, 0, none⟩), vgot, c21, c22, c23, c24, c25, c26, c27, c28, c29, c30, c31, c32, c33, c34, c35, c36, c37, c38, c39, c40, c41, c42, c43, c44, c45, c46, c47, c48, c49, c50, c51, c52, c53, c54, c55, c56, c57, c58, c59, c60, c61, c62, c63, c64, c65, c66, c67, c68, c69, c70, c71, c72, c73, c74, c75, c76, c77, c78, c79, c80, c81, c82, c83, c84, c85, c86, c87, c88, c89, c90, c91, c92, c93, c94, c95, c96, c97, c98, c99, c100, c101, c102, c103, c104, c105, c106, c107, c108, c109, c110, c111, c112, c113, c114, c115, c116, c117, c118, c119, c120, c121, c122, c123, c124, c125, c126, c127, c128, c129, c130, c131, c132, c133, c134, c135, c136, c137, c138, c139, c140, c141, c142, c143, c144, c145, c146, c147, c148, c149, c150, c151, c152, c153, c154, c155, c156, c157, c158, c159, c160, c161, c162, c163, c164, c165, c166, c167, c168, c169, c170, c171, c172, c173, c174, c175, c176, c177, c178, c179, c180, c181, c182, c183, c184, c185, c186, c187, c188, c189, c190, c191, c192, c193, c194, c195, c196, c197, c198, c199, c200, c201, c202, c203, c204, c205, c206, c207, c208, c209, c210, c211, c212, c213, c214, c215, c216, c217, c218, c219, c220, c221, c222, c223, c224, c225, c226, c227, c228, c229, c230, c231, c232, c233, c234, c235, c236, c237, c238, c239, c240, c241, c242, c243, c244, c245, c246, c247, c248, c249, c250, c251, c252, c253, c254, c255, c256, c257, c258, c259, c260, c261, c262, c263, c264, c265, c266, c267, c268, c269, c270, c271, c272, c273, c274, c275, c276, c277, c278, c279, c280, c281, c282, c283, c284, c285, c286, c287, c288, c289, c290, c291, c292, c293, c294, c295, c296, c297, c298, c299, c300, c301, c302, c303, c304, c305, c306, c307, c308, c309, c310, c311, c312, c313, c314, c315, c316, c317, c318, c319, c320, c321, c322, c323, c324, c325, c326, c327, c328, c329, c330, c331, c332, c333, c334, c335, c336, c337, c338, c339, c340, c341, c342, c343, c344, c345, c346, c347, c348, c349, c350, c351, c352, c353, c354, c355, c356, c357, c358, c359, c360, c361, c362, c363, c364, c365, c366, c367, c368, c369, c370, c371, c372, c373, c374, c375, c376, c377, c378, c379, c380, c381, c382, c383, c384, c385, c386, c387, c388, c389, c390, c391, c392, c393, c394, c395, c396, c397, c398, c399, c400, c401, c402, c403, c404, c405, c406, c407, c408, c409, c410, c411, c412, c413, c414, c415, c416, c417, c418, c419, c420, c421, c422, c423, c424, c425, c426, c427, c428, c429, c430], []⟩ w := by
  conv => arg 2; whnf
  obtain ⟨i4, hi, hz0, hz1, hz2⟩ := info_parts info4
  obtain ⟨i25, hi', hz0', hz1', hz2'⟩ := info_parts info25
  have HSS := Hid.mk' hss
  have HSP := Hid.mk' hsp
  have HF := Hid.mk' hf
  have HREST : Hid (∀ (w' : World), Below w0.heap.size w0 w' → (∀ x v, w.cell? x = some v → w'.cell? x = some v) → Sls w' n pb S E (fun i => if f i = true then false else F i) →
      Spn w' a n S E F ∧ (∀ i, i < n → w'.cell? ⟨sb, i, none⟩ = some (ptr (pb + i))) ∧ Got f n pb S w' vgot ∧ (∀ p, p < (Kp f n).length → w'.cell? ⟨ob, p, none⟩ = some (ptr (pb + (Kp f n).getD p 0))) ∧ (∀ p, (Kp f n).length ≤ p → p < n → w'.cell? ⟨ob, p, none⟩ = some (.pointer none)) ∧ w'.cell? ⟨hb, 12, none⟩ = some (.slice (some ⟨ob, 0, none⟩) (Kp f n).length n)) := by
    intro w' _ hk _
    refine ⟨hsp.later hk, fun i hi => hk _ _ (hss i hi), ?_, fun p hp => hk _ _ (hr1 p hp), fun p h1 h2 => hk _ _ (hr2 p h1 h2), hk _ _ hop⟩
    rcases hgot with h | ⟨g, cap, c', h1, h2, h3, h4, h5⟩
    · exact Or.inl h
    · exact Or.inr ⟨g, cap, c', h1, h2, h3, h4, fun j hj => hk _ _ (h5 j hj)⟩
  have HB := Hid.mk' hB
  have HS := Hid.mk' hS
  clear hss hsp hf hB hS hgot hr1 hr2 hop
  go_wp2_with (at_make; refine wpList_make_full _ rfl _ _ 39 rfl w.heap.size 4 i4 (.bool false) 1 Yba.underlying39 hi hz0 hz1 _ _ _ _ n rfl rfl (by omega) (by omega) (by rw [hz2]; omega) (by unfold maxLen; omega) (by simp) ?_)
  intro w1 hown1 hgrow1
  have HU := Hid.mk' (made_blk (z := .bool false) hown1)
  have HK1 := Hid.mk' (Keep.grown hgrow1)
  clear hown1 hgrow1
  have HC1 : Hid (w.heap.size < w1.heap.size) := HU.out.lt
  go_wp2_with fail
  rename_i Q' K hK
  have HK := Hid.mk' hK
  clear hK
  go_loopw [25, 26, 27] (fun s25 v i wr => ∃ m : Nat, m ≤ n ∧ i = .int .i64 m ∧ s25 = .int .i64 ((Cl f m).length : Int) ∧ KInv w1 w.heap.size pb n f m v wr) (fun _ _ i _ => n - (intOf i).toNat)
  case atStart => exact ⟨0, by omega, rfl, rfl, World.ownsRow_nil _ _ _ _, ⟨_, HU.out, by simp, fun i hi => by simp [hi]⟩, Keep.refl _ _⟩
  case round =>
    obtain ⟨m, hm, rfl, rfl, hI⟩ := hrel
    have HI := Hid.mk' hI
    clear hI
    have KW : Hid (∀ x v, w.cell? x = some v → wr.cell? x = some v) := fun x v h => HI.out.keep.cell (HK1.out.cell h (by intro e; cases e)) (Nat.ne_of_lt (World.block_lt_of_cell? w x h))
    by_cases hlt : m < n
    · obtain ⟨ab, ao, rfl, hc⟩ : ∃ ab ao, a = some ⟨ab, ao, none⟩ ∧ ∀ i, i < n → w.cell? ⟨ab, ao + i * 3, none⟩ = some (.int .i64 (S i)) ∧ w.cell? ⟨ab, ao + i * 3 + 1, none⟩ = some (.int .i64 (E i)) ∧ w.cell? ⟨ab, ao + i * 3 + 2, none⟩ = some (.bool (F i)) := by
        rcases HSP.out with h | h
        · omega
        · exact h
      have e1 : wr.cell? ⟨sb, m, none⟩ = some (.pointer (some ⟨pb + m, 0, none⟩)) := KW.out _ _ (HSS.out m hlt)
      have e2 : wr.cell? ⟨ab, ao + m * 3 + 1, none⟩ = some (.int .i64 (E m)) := KW.out _ _ (hc m hlt).2.1
      clear hc
      have b1 : (0 : Int) ≤ (m : Int) := by omega
      have b2 : (m : Int) < (n : Int) := by omega
      have hcl := Cl_Kp f m
      have HLC : Hid ((Cl f m).length ≤ 4096 ∧ (Kp f m).length ≤ 4096) := by unfold Hid; omega
      clear hcl
      by_cases hfm : f m = true
      · have HFM := Hid.mk' hfm
        have hall : all = true ∨ (all = false ∧ E m ≤ now) := by
          have := HF.out m
          rw [hfm] at this
          cases all
          · exact Or.inr ⟨rfl, by simpa using this.symm⟩
          · exact Or.inl rfl
        clear hfm
        obtain ⟨U, bU, hUs, hUc⟩ := HI.out.cl
        have e3 : wr.cell? ⟨w.heap.size, m, none⟩ = some (.bool (decide (m < m) && f m)) := (bU.cell m).trans (hUc m hlt)
        have e4 : wr.frozen? ⟨w.heap.size, m, none⟩ = false := bU.frozen m
        generalize (decide (m < m) && f m) = bb at e3
        clear bU hUs hUc
        have hlc : (Cl f m).length ≤ 4096 := HLC.out.1
        rcases hall with rfl | ⟨rfl, hle⟩
        all_goals
          go_wp2_with fail
          go_roundw
          case rel => exact ⟨m + 1, by omega, by go_num, by rw [Cl_t HFM.out, List.length_append]; rfl, HI.out.t HC1.out hlt HFM.out⟩
          case measure => simp [intOf]; omega
      · have hfm' : f m = false := by simpa using hfm
        have HFM := Hid.mk' hfm'
        obtain ⟨rfl, hgt⟩ : all = false ∧ now < E m := by
          have := HF.out m
          rw [hfm'] at this
          cases all
          · exact ⟨rfl, by simpa using this.symm⟩
          · simp at this
        clear hfm hfm'
        go_wp2_with (at_builtin; refine wpList_append_own _ rfl (.tmp 275) (.tmp 280) 24 rfl w1.heap.size 25 i25 (.pointer none) 1 8 Yba.underlying24 hi' hz0' hz1' hz2' rfl (by decide) u26 (Kp f m).length ((Kp f m).map fun i => ptr (pb + i)) rfl (by exact HI.out.own.alloc _) ⟨wr.heap.size, 0, none⟩ 1 1 [ptr (pb + m)] rfl rfl (cells_one _ _ _ _ (by simp)) (one_oneCell _) (by have := HLC.out; unfold maxLen; omega) (by have := HLC.out; omega) (by have := HI.out.keep.size; simp; omega) ?_; intro v' w' hown hgrow hnil)
        go_roundw
        case rel => exact ⟨m + 1, by omega, by go_num, by rw [Cl_f HFM.out], HI.out.f HC1.out HFM.out _ hown hgrow⟩
        case measure => simp [intOf]; omega
    · obtain rfl : m = n := by omega
      go_wp2_with fail
      refine HK.out _ _ ?_
      have hbw : Below w0.heap.size w0 wr := HB.out.trans ((HK1.out.below HB.out.size (fun k _ e => by cases e)).trans (HI.out.keep.below (Nat.le_trans HB.out.size HK1.out.size) (fun k hk e => by have := HB.out.size; omega)))
      have hSw : Sls wr m pb S E (fun i => if f i = true then false else F i) := fun i hi => HI.out.keep.blk (HK1.out.blk (HS.out i hi) (by intro e; cases e)) (Nat.ne_of_lt (HS.out i hi).lt)
      obtain ⟨x1, x2, x3, x4, x5, x6⟩ := HREST.out wr hbw KW.out hSw
      obtain ⟨U, bU, hUs, hUc⟩ := HI.out.cl
      exact law_t5 a cp m sb ob hb w.heap.size pb vgot u26 f S E F w0 wr hn hbw x1 x2 (fun i hi => by rw [bU.cell, hUc i hi]; simp [hi]) hSw x3 x4 x5 x6 HI.out.kept _ _ _ _ _ _ _ _ _ _ _ _ _ _ _ _ _ _ _ _ _ _ _ _ _ _ _ _ _ _ _ _ _ _ _ _ _ _ _ _ _ _ _ _ _ _ _ _ _ _ _ _ _ _ _ _ _ _ _ _ _ _ _ _ _ _ _ _ _ _ _ _ _ _ _ _ _ _ _ _ _ _ _ _ _ _ _ _ _ _ _ _ _ _ _ _ _ _ _ _ _ _ _ _ _ _ _ _ _ _ _ _ _ _ _ _ _ _ _ _ _ _ _ _ _ _ _ _ _ _ _ _ _ _ _ _ _ _ _ _ _ _ _ _ _ _ _ _ _ _ _ _ _ _ _ _ _ _ _ _ _ _ _ _ _ _ _ _ _ _ _ _ _ _ _ _ _ _ _ _ _ _ _ _ _ _ _ _ _ _ _ _ _ _ _ _ _ _ _ _ _ _ _ _ _ _ _ _ _ _ _ _ _ _ _ _ _ _ _ _ _ _ _ _ _ _ _ _ _ _ _ _ _ _ _ _ _ _ _ _ _ _ _ _ _ _ _ _ _ _ _ _ _ _ _ _ _ _ _ _ _ _ _ _ _ _ _ _ _ _ _ _ _ _ _ _ _ _ _ _ _ _ _ _ _ _ _ _ _ _ _ _ _ _ _ _ _ _ _ _ _ _ _ _ _ _ _ _ _ _ _ _ _ _ _ _ _ _ _ _ _ _ _ _ _ _ _ _ _ _ _ _ _ _ _ _ _ _ _ _ _ _ _ _ _ _ _ _ _ _ _ _ _ _ _ _ _ _ _ _ _ _ _ _ _ _ _ _ _ _ _ _ _ _ _ _ _ _ _ _ _ _ _ _ _ _ _ _ _ _ _ _ _ _ _ _ _ _ _ _ _ _ _ _ _ _ _ _ _ _ _ _ _ _ _ _ _ _ _ _ _ _
end Go.Proofs.Ybulkedjq
