import Derived.Test.YbulkedcqDoorRest
namespace Go.Proofs.YbulkedcqDoor
open Go.RowKit
attribute [local go_sem ↓] Go.wp_at_zero Go.wp_at_succ

/-- The state in which the law builds its sealer. -/
structure St (w V : World) (withPrev : Bool) (yb ab cb kb pb : Nat) (pv z : Option Addr) (ys ks : List Int) (fc : Nat → Value) : Prop where
  ll : LL V
  z6 : V.cell? ⟨0, 0, none⟩ = some (.pointer z)
  three : 2 ≤ V.heap.size
  key : Row16 V yb 0 ks
  adr : V.rangeAt ab 0 (ys.map (Value.int .u8))
  cur : ∀ i, i < 34 → V.cell? ⟨cb, i, none⟩ = some (fc i)
  keys : ∀ i, i < 16 → fc i = .int .u8 (ks.getD i 0)
  calls : fc 16 = .int .i64 0
  decs : fc 17 = .int .i64 0
  froz : ∀ i, V.frozen? ⟨cb, i, none⟩ = false
  shape : V.shape? kb = some (31, 2)
  kp0 : V.cell? ⟨kb, 0, none⟩ = some (.iface 24 (.pointer (some ⟨cb, 0, none⟩)))
  prev : PrevAt withPrev kb pb pv V
  bel : Below w.heap.size w V
  wc : w.heap.size ≤ cb
  kc : kb ≠ cb
  pc : pb ≠ cb
  ac : ab ≠ cb
  yc : yb ≠ cb

theorem PrevAt.later {withPrev : Bool} {kb pb : Nat} {pv : Option Addr} {V W : World} (h : PrevAt withPrev kb pb pv V) (lt : ∀ o v, V.cell? ⟨kb, o, none⟩ = some v → W.cell? ⟨kb, o, none⟩ = some v) (lp : ∀ o v, V.cell? ⟨pb, o, none⟩ = some v → W.cell? ⟨pb, o, none⟩ = some v) : PrevAt withPrev kb pb pv W := by
  unfold PrevAt at *
  cases withPrev with
  | true =>
    simp only [if_true] at h ⊢
    exact ⟨h.1, lt _ _ h.2.1, lp _ _ h.2.2.1, lp _ _ h.2.2.2⟩
  | false =>
    simp only [if_false, Bool.false_eq_true] at h ⊢
    exact lt _ _ h

theorem shape_block {V W : World} {kb : Nat} {x : TypeId × Nat} (h : V.shape? kb = some x) (e : W.heap[kb]? = V.heap[kb]?) : W.shape? kb = some x := by
  unfold World.shape? at *; rw [e]; exact h

theorem row_of_range {W : World} {b : Nat} {xs : List Int} (h : W.rangeAt b 0 (xs.map (Value.int .u8))) (hl : xs.length = 16) : Row16 W b 0 xs := by
  intro i hi
  refine h i _ ?_
  simp [List.getD, show i < xs.length by omega]

set_option maxHeartbeats 8000000 in
set_option maxRecDepth 100000 in
theorem mid_no (join port joins : Int) (withPrev : Bool) (yb ab cb kb pb : Nat) (pv z : Option Addr) (y0 y1 y2 y3 y4 y5 y6 y7 y8 y9 y10 y11 y12 y13 y14 y15 : Int) (ks : List Int) (fc : Nat → Value) (w V : World) (c1 c3 c4 c5 c8 c9 c10 c11 c13 c14 c15 c18 c22 c23 c24 c25 c26 c27 c28 c29 c30 c31 c32 c33 c34 c35 c36 c37 c38 c39 c40 c41 c42 c43 c44 c45 c46 c47 c48 c49 c50 c51 c52 c53 c54 c55 c56 c57 c58 c59 c60 c61 c62 c63 c64 c65 c66 c67 c68 c69 c70 c71 c72 c73 c74 c75 c76 c77 c78 c79 c80 c81 c82 c83 c84 c85 c86 c87 c88 c89 c90 c91 c92 c93 c94 c95 c96 c97 c98 c99 c100 c101 c102 c103 c104 c105 c106 c107 c108 c109 c110 c111 c112 c113 c114 c115 c116 c117 c118 c119 c120 c121 c122 c123 c124 c125 c126 c127 c128 c129 c130 c131 c132 c133 c134 c135 c136 c137 c138 c139 c140 c141 c142 c143 c144 c145 c146 c147 c148 c149 c150 c151 c152 c153 c154 c155 c156 c157 c158 c159 c160 c161 c162 c163 c164 c165 c166 c167 c168 c169 c170 c171 c172 c173 c174 c175 c176 c177 c178 c179 c180 c181 c182 c183 c184 c185 c186 c187 c188 c189 c190 c191 c192 c193 c194 c195 c196 c197 c198 c199 c200 c201 c202 c203 c204 c205 c206 c207 c208 c209 c210 c211 c212 c213 c214 c215 c216 c217 c218 c219 c220 c221 c222 c223 c224 c225 c226 c227 : Value) (hy0 : IsB y0) (hy1 : IsB y1) (hy2 : IsB y2) (hy3 : IsB y3) (hy4 : IsB y4) (hy5 : IsB y5) (hy6 : IsB y6) (hy7 : IsB y7) (hy8 : IsB y8) (hy9 : IsB y9) (hy10 : IsB y10) (hy11 : IsB y11) (hy12 : IsB y12) (hy13 : IsB y13) (hy14 : IsB y14) (hy15 : IsB y15)
    (hst : St w V withPrev yb ab cb kb pb pv z [y0, y1, y2, y3, y4, y5, y6, y7, y8, y9, y10, y11, y12, y13, y14, y15] ks fc) (hno : isLL y0 y1 y2 y3 y4 y5 y6 y7 = false) :
    Code.wp Ybad.prog ((Ybad.f3.body.bind (fromR 15)).getD .skip) (bodyPost Ybad.prog Ybad.f3 (fun e w' => e = .returned (.bool true) ∧ Below w.heap.size w w')) ⟨#[.int .i64 join, c1, .int .u16 port, c3, c4, c5, .bool withPrev, .int .i64 joins, c8, c9, c10, c11, .pointer (some ⟨yb, 0, none⟩), c13, c14, c15, .bool false, .pointer (some ⟨ab, 0, none⟩), c18, .pointer (some ⟨cb, 0, none⟩), .pointer pv, .pointer (some ⟨kb, 0, none⟩), c22, c23, c24, c25, c26, c27, c28, c29, c30, c31, c32, c33, c34, c35, c36, c37, c38, c39, c40, c41, c42, c43, c44, c45, c46, c47, c48, c49, c50, c51, c52, c53, c54, c55, c56, c57, c58, c59, c60, c61, c62, c63, c64, c65, c66, c67, c68, c69, c70, c71, c72, c73, c74, c75, c76, c77, c78, c79, c80, c81, c82, c83, c84, c85, c86, c87, c88, c89, c90, c91, c92, c93, c94, c95, c96, c97, c98, c99, c100, c101, c102, c103, c104, c105, c106, c107, c108, c109, c110, c111, c112, c113, c114, c115, c116, c117, c118, c119, c120, c121, c122, c123, c124, c125, c126, c127, c128, c129, c130, c131, c132, c133, c134, c135, c136, c137, c138, c139, c140, c141, c142, c143, c144, c145, c146, c147, c148, c149, c150, c151, c152, c153, c154, c155, c156, c157, c158, c159, c160, c161, c162, c163, c164, c165, c166, c167, c168, c169, c170, c171, c172, c173, c174, c175, c176, c177, c178, c179, c180, c181, c182, c183, c184, c185, c186, c187, c188, c189, c190, c191, c192, c193, c194, c195, c196, c197, c198, c199, c200, c201, c202, c203, c204, c205, c206, c207, c208, c209, c210, c211, c212, c213, c214, c215, c216, c217, c218, c219, c220, c221, c222, c223, c224, c225, c226, c227], []⟩ V := by
  have HST : Hid (St w V withPrev yb ab cb kb pb pv z [y0, y1, y2, y3, y4, y5, y6, y7, y8, y9, y10, y11, y12, y13, y14, y15] ks fc) := hst
  clear hst
  have hkV : ∀ o, (V.alloc o).shape? kb = some (31, 2) := fun o => by
    have hk := HST.out.shape
    have hlt : kb < V.heap.size := World.block_lt_of_cell? V ⟨kb, 0, none⟩ HST.out.kp0
    have b : Below V.heap.size V (V.alloc o) := (Below.refl _ _).alloc (Nat.le_refl _) _
    unfold World.shape? at hk ⊢
    rw [b.block kb hlt]; exact hk
  conv => arg 2; whnf
  go_wp2_with fail
  refine (store_any V.heap.size kb _ (.pointer none) (by simp) (by simp) (hkV _)).mono ?_
  rintro e w1 ⟨rfl, hw1⟩
  dsimp only
  have b1 : Below V.heap.size V w1 := by rw [hw1]; exact ((Below.refl _ _).alloc (Nat.le_refl _) _).setCell (by simp) _
  have hs1 : w1.heap.size = V.heap.size + 1 := by rw [hw1]; simp [World.setCell]
  have S0 : Hid (w1.cell? ⟨V.heap.size, 0, none⟩ = some (.pointer (some ⟨kb, 0, none⟩))) := by unfold Hid; rw [hw1]; exact World.cell?_setCell_same _ _ _ (u := .pointer none) (by simp)
  have S1 : Hid (w1.cell? ⟨V.heap.size, 1, none⟩ = some (.int .i64 joins)) := by unfold Hid; rw [hw1, World.cell?_setCell_other _ _ _ _ (ne_off (by decide))]; simp
  clear hw1
  have hV3 := HST.out.three
  have R1 : Hid (World.rangeAt w1 ab 0 [.int .u8 y0, .int .u8 y1, .int .u8 y2, .int .u8 y3, .int .u8 y4, .int .u8 y5, .int .u8 y6, .int .u8 y7, .int .u8 y8, .int .u8 y9, .int .u8 y10, .int .u8 y11, .int .u8 y12, .int .u8 y13, .int .u8 y14, .int .u8 y15]) := fun j v hv => by
    have e := HST.out.adr j v hv
    exact (b1.cell (World.block_lt_of_cell? V _ e)).trans e
  have z1 : w1.cell? ⟨0, 0, none⟩ = some (.pointer z) := (b1.cell (by show (0 : Nat) < V.heap.size; omega)).trans HST.out.z6
  go_wp2_with (first | (refine wpList_load_mid rfl 22 _ rfl ab 0 rfl [.int .u8 y0, .int .u8 y1, .int .u8 y2, .int .u8 y3, .int .u8 y4, .int .u8 y5, .int .u8 y6, .int .u8 y7, .int .u8 y8, .int .u8 y9, .int .u8 y10, .int .u8 y11, .int .u8 y12, .int .u8 y13, .int .u8 y14, .int .u8 y15] _ (by exact R1.out) Ybad.underlying22 rfl info22 ?_))
  refine (from16_any y0 y1 y2 y3 y4 y5 y6 y7 y8 y9 y10 y11 y12 y13 y14 y15 z w1 hy0 hy1 hy2 hy3 hy4 hy5 hy6 hy7 hy8 hy9 hy10 hy11 hy12 hy13 hy14 hy15 z1 (by omega)).mono ?_
  rintro e w2 ⟨rfl, b2⟩
  dsimp only
  go_wp2_with fail
  refine (portFrom_any _ _ _ _ _).mono ?_
  rintro e w3 ⟨rfl, b3⟩
  dsimp only
  go_upto_region 18 with fail
  have hsz2 := b2.size
  have hsz3 := b3.size
  have b4 : Below w1.heap.size w1 (w3.alloc (.cells #[.int .u64 (be8 y0 y1 y2 y3 y4 y5 y6 y7), .int .u64 (be8 y8 y9 y10 y11 y12 y13 y14 y15), .pointer z, .int .u16 port] 51)) := (b2.trans (b3.mono hsz2)).alloc (by omega) _
  have HL4 : Hid (LL (w3.alloc (.cells #[.int .u64 (be8 y0 y1 y2 y3 y4 y5 y6 y7), .int .u64 (be8 y8 y9 y10 y11 y12 y13 y14 y15), .pointer z, .int .u16 port] 51))) := HST.out.ll.later (b1.trans (b4.mono (by omega))) (by omega)
  have B4 : Hid (Below w1.heap.size w1 (w3.alloc (.cells #[.int .u64 (be8 y0 y1 y2 y3 y4 y5 y6 y7), .int .u64 (be8 y8 y9 y10 y11 y12 y13 y14 y15), .pointer z, .int .u16 port] 51))) := b4
  have hp3 : w3.heap.size < (w3.alloc (.cells #[.int .u64 (be8 y0 y1 y2 y3 y4 y5 y6 y7), .int .u64 (be8 y8 y9 y10 y11 y12 y13 y14 y15), .pointer z, .int .u16 port] 51)).heap.size := by simp
  clear b2 b3 b4 R1 z1
  go_cut [24, 25] (fun s24 s25 wx => ∃ hb, s24 = .pointer (some ⟨hb, 0, none⟩) ∧ s25 = .bool false ∧ World.rangeAt wx hb 0 z16 ∧ Below w1.heap.size w1 wx)
  case first =>
    go_wp2_with fail
    refine (seal_no V.heap.size join port y0 y1 y2 y3 y4 y5 y6 y7 y8 y9 y10 y11 y12 y13 y14 y15 z _ hy0 hy1 hy2 hy3 hy4 hy5 hy6 hy7 hy8 hy9 hy10 hy11 hy12 hy13 hy14 hy15 HL4.out (by simp; omega) hno).mono ?_
    rintro e w5 ⟨rfl, b5⟩
    dsimp only
    have hsz5 := b5.size
    have B5 : Hid (Below w1.heap.size w1 w5) := B4.out.trans (b5.mono B4.out.size)
    clear b5
    go_wp2_with fail
    go_meet
    case rel => exact ⟨w5.heap.size, rfl, rfl, range_new w5 #[.int .u8 0, .int .u8 0, .int .u8 0, .int .u8 0, .int .u8 0, .int .u8 0, .int .u8 0, .int .u8 0, .int .u8 0, .int .u8 0, .int .u8 0, .int .u8 0, .int .u8 0, .int .u8 0, .int .u8 0, .int .u8 0] 22 _ (Below.refl _ _), B5.out.alloc B5.out.size _⟩
  case rest =>
    obtain ⟨hb, rfl, rfl, hr, bc⟩ := hcut
    refine ‹∀ (a : Act) (w : World), Code.wp _ _ _ a w → _› _ _ ?_
    have bV : Below V.heap.size V wc := b1.trans (bc.mono (by omega))
    have lt : ∀ b o v, V.cell? ⟨b, o, none⟩ = some v → wc.cell? ⟨b, o, none⟩ = some v := fun b o v h => (bV.cell (World.block_lt_of_cell? V _ h)).trans h
    refine rest_any join port joins withPrev false yb ab cb kb V.heap.size hb pb pv w wc _ _ _ _ _ _ _ _ _ _ _ _ _ _ _ _ _ _ _ _ _ _ _ _ _ _ _ _ _ _ _ _ _ _ _ _ _ _ _ _ _ _ _ _ _ _ _ _ _ _ _ _ _ _ _ _ _ _ _ _ _ _ _ _ _ _ _ _ _ _ _ _ _ _ _ _ _ _ _ _ _ _ _ _ _ _ _ _ _ _ _ _ _ _ _ _ _ _ _ _ _ _ _ _ _ _ _ _ _ _ _ _ _ _ _ _ _ _ _ _ _ _ _ _ _ _ _ _ _ _ _ _ _ _ _ _ _ _ _ _ _ _ _ _ _ _ _ _ _ _ _ _ _ _ _ _ _ _ _ _ _ _ _ _ _ _ _ _ _ _ _ _ _ _ _ _ _ _ _ _ _ _ _ _ _ _ _ _ _ _ _ _ _ _ _ _ _ _ _ _ _ _ _ _ _ _ _ _ _ _ _ _ _ _ _ ?_ ?_ ?_ ?_ ?_ ?_
    · exact HST.out.prev.later (fun o v h => lt _ o v h) (fun o v h => lt _ o v h)
    · exact (bc.cell (by show V.heap.size < w1.heap.size; omega)).trans S0.out
    · exact (bc.cell (by show V.heap.size < w1.heap.size; omega)).trans S1.out
    · exact shape_block HST.out.shape (bV.block kb (World.block_lt_of_cell? V ⟨kb, 0, none⟩ HST.out.kp0))
    · exact lt _ _ _ HST.out.kp0
    · intro d1 d3 d4 d5 d6 d7 d8 d9 d10 d11 d13 d14 d15 d18 d20 d21 d22 d23 d26 d27 d28 d29 d30 d31 d32 d33 d34 d35 d36 d37 d38 d39 d40 d41 d42 d43 d44 d45 d46 d47 d48 d49 d50 d51 d52 d53 d54 d55 d56 d57 d58 d59 d60 d61 d62 d63 d64 d65 d66 d67 d68 d69 d70 d71 d72 d73 d74 d75 d76 d77 d78 d79 d80 d81 d82 d83 d84 d85 d86 d87 d88 d89 d90 d91 d92 d93 d94 d95 d96 d97 d98 d99 d100 d101 d102 d103 d104 d105 d106 d107 d108 d109 d110 d111 d112 d113 d114 d115 d116 d117 d118 d119 d120 d121 d122 d123 d124 d125 d126 d127 d128 d129 d130 d131 d132 d133 d134 d135 d136 d137 d138 d139 d140 d141 d142 d143 d144 d145 d146 d147 d148 d149 d150 d151 d152 d153 d154 d155 d156 d157 d158 d159 d160 d161 d162 d163 d164 d165 d166 d167 d168 d169 d170 d171 d172 d173 d174 d175 d176 d177 d178 d179 d180 d181 d182 d183 d184 d185 d186 d187 d188 d189 d190 d191 d192 d193 d194 d195 d196 d197 d198 d199 d200 d201 d202 d203 d204 d205 d206 d207 d208 d209 d210 d211 d212 d213 d214 d215 d216 d217 d218 d219 d220 d221 d222 d223 d224 d225 d226 d227
      refine tail_no join port yb ab cb hb [y0, y1, y2, y3, y4, y5, y6, y7, y8, y9, y10, y11, y12, y13, y14, y15] w wc _ _ _ _ _ _ _ _ _ _ _ _ _ _ _ _ _ _ _ _ _ _ _ _ _ _ _ _ _ _ _ _ _ _ _ _ _ _ _ _ _ _ _ _ _ _ _ _ _ _ _ _ _ _ _ _ _ _ _ _ _ _ _ _ _ _ _ _ _ _ _ _ _ _ _ _ _ _ _ _ _ _ _ _ _ _ _ _ _ _ _ _ _ _ _ _ _ _ _ _ _ _ _ _ _ _ _ _ _ _ _ _ _ _ _ _ _ _ _ _ _ _ _ _ _ _ _ _ _ _ _ _ _ _ _ _ _ _ _ _ _ _ _ _ _ _ _ _ _ _ _ _ _ _ _ _ _ _ _ _ _ _ _ _ _ _ _ _ _ _ _ _ _ _ _ _ _ _ _ _ _ _ _ _ _ _ _ _ _ _ _ _ _ _ _ _ _ _ _ _ _ _ _ _ _ _ _ _ _ _ _ _ _ _ _ _ _ _ _ _ ?_ ?_ ?_ hr ?_ ?_ rfl
      · have e := HST.out.cur 16 (by omega)
        rw [HST.out.calls] at e
        exact lt _ _ _ e
      · have e := HST.out.cur 17 (by omega)
        rw [HST.out.decs] at e
        exact lt _ _ _ e
      · exact row_of_range (fun j v hv => lt _ _ _ (HST.out.adr j v hv)) rfl
      · exact HST.out.bel.trans (bV.mono HST.out.bel.size)
      · exact hno
end Go.Proofs.YbulkedcqDoor
