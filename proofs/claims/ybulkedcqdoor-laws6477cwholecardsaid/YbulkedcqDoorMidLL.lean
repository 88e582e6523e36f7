import Derived.Test.YbulkedcqDoorMid
namespace Go.Proofs.YbulkedcqDoor
open Go.RowKit
attribute [local go_sem ↓] Go.wp_at_zero Go.wp_at_succ

theorem One.from_below {w W w' : World} {cb : Nat} {fc : Nat → Value} (h : One W cb fc w') (b : Below w.heap.size w W) : One w cb fc w' :=
  ⟨h.cur, h.os.trans b.os, h.tape.trans b.tape, h.output.trans b.output, Nat.le_trans b.size h.size, fun k h0 h1 => (h.block k (Nat.lt_of_lt_of_le h0 b.size) h1).trans (b.block k h0)⟩
theorem One.after {w w5 wx : World} {cb : Nat} {fc : Nat → Value} (h : One w cb fc w5) (b : Below w5.heap.size w5 wx) : One w cb fc wx := by
  have hcb : cb < w5.heap.size := World.block_lt_of_cell? w5 ⟨cb, 0, none⟩ (h.cur 0 (by omega))
  exact ⟨fun i hi => (b.cell (by exact hcb)).trans (h.cur i hi), b.os.trans h.os, b.tape.trans h.tape, b.output.trans h.output, Nat.le_trans h.size b.size, fun k h0 h1 => (b.block k (Nat.lt_of_lt_of_le h0 h.size)).trans (h.block k h0 h1)⟩

set_option maxHeartbeats 8000000 in
set_option maxRecDepth 100000 in
theorem mid_ll (join port joins : Int) (withPrev : Bool) (yb ab cb kb pb : Nat) (pv z : Option Addr) (y8 y9 y10 y11 y12 y13 y14 y15 : Int) (ks : List Int) (fc : Nat → Value) (w V : World) (c1 c3 c4 c5 c8 c9 c10 c11 c13 c14 c15 c18 c22 c23 c24 c25 c26 c27 c28 c29 c30 c31 c32 c33 c34 c35 c36 c37 c38 c39 c40 c41 c42 c43 c44 c45 c46 c47 c48 c49 c50 c51 c52 c53 c54 c55 c56 c57 c58 c59 c60 c61 c62 c63 c64 c65 c66 c67 c68 c69 c70 c71 c72 c73 c74 c75 c76 c77 c78 c79 c80 c81 c82 c83 c84 c85 c86 c87 c88 c89 c90 c91 c92 c93 c94 c95 c96 c97 c98 c99 c100 c101 c102 c103 c104 c105 c106 c107 c108 c109 c110 c111 c112 c113 c114 c115 c116 c117 c118 c119 c120 c121 c122 c123 c124 c125 c126 c127 c128 c129 c130 c131 c132 c133 c134 c135 c136 c137 c138 c139 c140 c141 c142 c143 c144 c145 c146 c147 c148 c149 c150 c151 c152 c153 c154 c155 c156 c157 c158 c159 c160 c161 c162 c163 c164 c165 c166 c167 c168 c169 c170 c171 c172 c173 c174 c175 c176 c177 c178 c179 c180 c181 c182 c183 c184 c185 c186 c187 c188 c189 c190 c191 c192 c193 c194 c195 c196 c197 c198 c199 c200 c201 c202 c203 c204 c205 c206 c207 c208 c209 c210 c211 c212 c213 c214 c215 c216 c217 c218 c219 c220 c221 c222 c223 c224 c225 c226 c227 : Value) (hy8 : IsB y8) (hy9 : IsB y9) (hy10 : IsB y10) (hy11 : IsB y11) (hy12 : IsB y12) (hy13 : IsB y13) (hy14 : IsB y14) (hy15 : IsB y15)
    (hst : St w V withPrev yb ab cb kb pb pv z [254, 128, 0, 0, 0, 0, 0, 0, y8, y9, y10, y11, y12, y13, y14, y15] ks fc) (hp0 : 0 ≤ port) (hp1 : port < 65536) (hks : AllB ks) :
    Code.wp Ybad.prog ((Ybad.f3.body.bind (fromR 15)).getD .skip) (bodyPost Ybad.prog Ybad.f3 (fun e w' => e = .returned (.bool true) ∧ Below w.heap.size w w')) ⟨#[.int .i64 join, c1, .int .u16 port, c3, c4, c5, .bool withPrev, .int .i64 joins, c8, c9, c10, c11, .pointer (some ⟨yb, 0, none⟩), c13, c14, c15, .bool false, .pointer (some ⟨ab, 0, none⟩), c18, .pointer (some ⟨cb, 0, none⟩), .pointer pv, .pointer (some ⟨kb, 0, none⟩), c22, c23, c24, c25, c26, c27, c28, c29, c30, c31, c32, c33, c34, c35, c36, c37, c38, c39, c40, c41, c42, c43, c44, c45, c46, c47, c48, c49, c50, c51, c52, c53, c54, c55, c56, c57, c58, c59, c60, c61, c62, c63, c64, c65, c66, c67, c68, c69, c70, c71, c72, c73, c74, c75, c76, c77, c78, c79, c80, c81, c82, c83, c84, c85, c86, c87, c88, c89, c90, c91, c92, c93, c94, c95, c96, c97, c98, c99, c100, c101, c102, c103, c104, c105, c106, c107, c108, c109, c110, c111, c112, c113, c114, c115, c116, c117, c118, c119, c120, c121, c122, c123, c124, c125, c126, c127, c128, c129, c130, c131, c132, c133, c134, c135, c136, c137, c138, c139, c140, c141, c142, c143, c144, c145, c146, c147, c148, c149, c150, c151, c152, c153, c154, c155, c156, c157, c158, c159, c160, c161, c162, c163, c164, c165, c166, c167, c168, c169, c170, c171, c172, c173, c174, c175, c176, c177, c178, c179, c180, c181, c182, c183, c184, c185, c186, c187, c188, c189, c190, c191, c192, c193, c194, c195, c196, c197, c198, c199, c200, c201, c202, c203, c204, c205, c206, c207, c208, c209, c210, c211, c212, c213, c214, c215, c216, c217, c218, c219, c220, c221, c222, c223, c224, c225, c226, c227], []⟩ V := by
  have HST : Hid (St w V withPrev yb ab cb kb pb pv z [254, 128, 0, 0, 0, 0, 0, 0, y8, y9, y10, y11, y12, y13, y14, y15] ks fc) := hst
  clear hst
  have hkV : ∀ o, (V.alloc o).shape? kb = some (31, 2) := fun o => by
    have hk := HST.out.shape
    have hlt : kb < V.heap.size := World.block_lt_of_cell? V ⟨kb, 0, none⟩ HST.out.kp0
    have b : Below V.heap.size V (V.alloc o) := (Below.refl _ _).alloc (Nat.le_refl _) _
    unfold World.shape? at hk ⊢
    rw [b.block kb hlt]; exact hk
  conv => arg 2; whnf
  go_wp2_with fail
  refine (store_any V.heap.size kb _ (.pointer none) (by simp) (by simp) (hkV _)).mono ?_
  rintro e w1 ⟨rfl, hw1⟩
  dsimp only
  have b1 : Below V.heap.size V w1 := by rw [hw1]; exact ((Below.refl _ _).alloc (Nat.le_refl _) _).setCell (by simp) _
  have hs1 : w1.heap.size = V.heap.size + 1 := by rw [hw1]; simp [World.setCell]
  have S0 : Hid (w1.cell? ⟨V.heap.size, 0, none⟩ = some (.pointer (some ⟨kb, 0, none⟩))) := by unfold Hid; rw [hw1]; exact World.cell?_setCell_same _ _ _ (u := .pointer none) (by simp)
  have S1 : Hid (w1.cell? ⟨V.heap.size, 1, none⟩ = some (.int .i64 joins)) := by unfold Hid; rw [hw1, World.cell?_setCell_other _ _ _ _ (ne_off (by decide))]; simp
  clear hw1
  have hV3 := HST.out.three
  have b254 : IsB 254 := ⟨by omega, by omega⟩
  have b128 : IsB 128 := ⟨by omega, by omega⟩
  have b0 : IsB 0 := ⟨by omega, by omega⟩
  have R1 : Hid (World.rangeAt w1 ab 0 [.int .u8 254, .int .u8 128, .int .u8 0, .int .u8 0, .int .u8 0, .int .u8 0, .int .u8 0, .int .u8 0, .int .u8 y8, .int .u8 y9, .int .u8 y10, .int .u8 y11, .int .u8 y12, .int .u8 y13, .int .u8 y14, .int .u8 y15]) := fun j v hv => by
    have e := HST.out.adr j v hv
    exact (b1.cell (World.block_lt_of_cell? V _ e)).trans e
  have z1 : w1.cell? ⟨0, 0, none⟩ = some (.pointer z) := (b1.cell (by show (0 : Nat) < V.heap.size; omega)).trans HST.out.z6
  go_wp2_with (first | (refine wpList_load_mid rfl 22 _ rfl ab 0 rfl [.int .u8 254, .int .u8 128, .int .u8 0, .int .u8 0, .int .u8 0, .int .u8 0, .int .u8 0, .int .u8 0, .int .u8 y8, .int .u8 y9, .int .u8 y10, .int .u8 y11, .int .u8 y12, .int .u8 y13, .int .u8 y14, .int .u8 y15] _ (by exact R1.out) Ybad.underlying22 rfl info22 ?_))
  refine (from16_any 254 128 0 0 0 0 0 0 y8 y9 y10 y11 y12 y13 y14 y15 z w1 b254 b128 b0 b0 b0 b0 b0 b0 hy8 hy9 hy10 hy11 hy12 hy13 hy14 hy15 z1 (by omega)).mono ?_
  rintro e w2 ⟨rfl, b2⟩
  dsimp only
  go_wp2_with fail
  refine (portFrom_any _ _ _ _ _).mono ?_
  rintro e w3 ⟨rfl, b3⟩
  dsimp only
  go_upto_region 18 with fail
  have hsz2 := b2.size
  have hsz3 := b3.size
  have b4 : Below w1.heap.size w1 (w3.alloc (.cells #[.int .u64 (be8 254 128 0 0 0 0 0 0), .int .u64 (be8 y8 y9 y10 y11 y12 y13 y14 y15), .pointer z, .int .u16 port] 51)) := (b2.trans (b3.mono hsz2)).alloc (by omega) _
  have HL4 : Hid (LL (w3.alloc (.cells #[.int .u64 (be8 254 128 0 0 0 0 0 0), .int .u64 (be8 y8 y9 y10 y11 y12 y13 y14 y15), .pointer z, .int .u16 port] 51))) := HST.out.ll.later (b1.trans (b4.mono (by omega))) (by omega)
  have B4 : Hid (Below w1.heap.size w1 (w3.alloc (.cells #[.int .u64 (be8 254 128 0 0 0 0 0 0), .int .u64 (be8 y8 y9 y10 y11 y12 y13 y14 y15), .pointer z, .int .u16 port] 51))) := b4
  have hp3 : w3.heap.size < (w3.alloc (.cells #[.int .u64 (be8 254 128 0 0 0 0 0 0), .int .u64 (be8 y8 y9 y10 y11 y12 y13 y14 y15), .pointer z, .int .u16 port] 51)).heap.size := by simp
  have hcbV : cb < V.heap.size := World.block_lt_of_cell? V ⟨cb, 0, none⟩ (HST.out.cur 0 (by omega))
  have hkbV : kb < V.heap.size := World.block_lt_of_cell? V ⟨kb, 0, none⟩ HST.out.kp0
  have b14 : Below V.heap.size V (w3.alloc (.cells #[.int .u64 (be8 254 128 0 0 0 0 0 0), .int .u64 (be8 y8 y9 y10 y11 y12 y13 y14 y15), .pointer z, .int .u16 port] 51)) := b1.trans (b4.mono (by omega))
  have Y1 : Hid ((w3.alloc (.cells #[.int .u64 (be8 254 128 0 0 0 0 0 0), .int .u64 (be8 y8 y9 y10 y11 y12 y13 y14 y15), .pointer z, .int .u16 port] 51)).cell? ⟨V.heap.size, 0, none⟩ = some (.pointer (some ⟨kb, 0, none⟩))) := (b4.cell (by show V.heap.size < w1.heap.size; omega)).trans S0.out
  have Y2 : Hid ((w3.alloc (.cells #[.int .u64 (be8 254 128 0 0 0 0 0 0), .int .u64 (be8 y8 y9 y10 y11 y12 y13 y14 y15), .pointer z, .int .u16 port] 51)).shape? kb = some (31, 2)) := shape_block HST.out.shape (b14.block kb hkbV)
  have Y3 : Hid ((w3.alloc (.cells #[.int .u64 (be8 254 128 0 0 0 0 0 0), .int .u64 (be8 y8 y9 y10 y11 y12 y13 y14 y15), .pointer z, .int .u16 port] 51)).cell? ⟨kb, 0, none⟩ = some (.iface 24 (.pointer (some ⟨cb, 0, none⟩)))) := (b14.cell (by exact hkbV)).trans HST.out.kp0
  have Y4 : Hid (∀ i, i < 34 → (w3.alloc (.cells #[.int .u64 (be8 254 128 0 0 0 0 0 0), .int .u64 (be8 y8 y9 y10 y11 y12 y13 y14 y15), .pointer z, .int .u16 port] 51)).cell? ⟨cb, i, none⟩ = some (fc i)) := fun i hi => (b14.cell (by exact hcbV)).trans (HST.out.cur i hi)
  have Y5 : Hid (∀ i, (w3.alloc (.cells #[.int .u64 (be8 254 128 0 0 0 0 0 0), .int .u64 (be8 y8 y9 y10 y11 y12 y13 y14 y15), .pointer z, .int .u16 port] 51)).frozen? ⟨cb, i, none⟩ = false) := fun i => (b14.frozen (by exact hcbV)).trans (HST.out.froz i)
  clear b2 b3 b4 b14 R1 z1
  go_cut [24, 25] (fun s24 s25 wx => ∃ hb fc', s24 = .pointer (some ⟨hb, 0, none⟩) ∧ s25 = .bool true ∧ Row16 wx hb 0 (xorL (plainOf join port y8 y9 y10 y11 y12 y13 y14 y15) ks) ∧ One w1 cb fc' wx ∧ fc' 16 = .int .i64 1 ∧ fc' 17 = fc 17 ∧ (∀ i, i < 16 → fc' (18 + i) = .int .u8 ((plainOf join port y8 y9 y10 y11 y12 y13 y14 y15).getD i 0)))
  case first =>
    go_wp2_with fail
    refine (seal_ll V.heap.size kb cb join port 254 128 0 0 0 0 0 0 y8 y9 y10 y11 y12 y13 y14 y15 z ks fc _ b254 b128 b0 b0 b0 b0 b0 b0 hy8 hy9 hy10 hy11 hy12 hy13 hy14 hy15 HL4.out (by simp; omega) rfl hp0 hp1 Y1.out Y2.out Y3.out Y4.out HST.out.keys HST.out.calls Y5.out hks).mono ?_
    rintro e w5 ⟨rfl, fc', hone, k1, k2, k3, k4⟩
    dsimp only
    have HO5 : Hid (One w1 cb fc' w5) := hone.from_below B4.out
    have HK : Hid (fc' 16 = .int .i64 1 ∧ fc' 17 = fc 17 ∧ (∀ i, i < 16 → fc' (18 + i) = .int .u8 ((plainOf join port y8 y9 y10 y11 y12 y13 y14 y15).getD i 0))) := ⟨k2, k3, k4⟩
    clear hone k1 k2 k3 k4
    have HLEN : Hid ((xorL (plainOf join port y8 y9 y10 y11 y12 y13 y14 y15) ks).length = 16) := xorL_len _ _
    generalize hxl : xorL (plainOf join port y8 y9 y10 y11 y12 y13 y14 y15) ks = xl
    have HXL : Hid (xorL (plainOf join port y8 y9 y10 y11 y12 y13 y14 y15) ks = xl) := hxl
    rw [hxl] at HLEN
    clear hxl
    have T1 : Hid (World.there (w5.alloc (.cells #[.int .u8 0, .int .u8 0, .int .u8 0, .int .u8 0, .int .u8 0, .int .u8 0, .int .u8 0, .int .u8 0, .int .u8 0, .int .u8 0, .int .u8 0, .int .u8 0, .int .u8 0, .int .u8 0, .int .u8 0, .int .u8 0] 22)) w5.heap.size 0 (xl.map (Value.int .u8)).toArray.size) := by
      have e : (xl.map (Value.int .u8)).toArray.size = 16 := by simp [HLEN.out]
      unfold Hid; rw [e]; exact there_new w5 #[.int .u8 0, .int .u8 0, .int .u8 0, .int .u8 0, .int .u8 0, .int .u8 0, .int .u8 0, .int .u8 0, .int .u8 0, .int .u8 0, .int .u8 0, .int .u8 0, .int .u8 0, .int .u8 0, .int .u8 0, .int .u8 0] 22 _ (Below.refl _ _)
    have T2 : Hid ((Ybad.prog.info? 22).map (·.size) = some (xl.map (Value.int .u8)).toArray.size) := by
      have e : (xl.map (Value.int .u8)).toArray.size = 16 := by simp [HLEN.out]
      unfold Hid; rw [e]; exact info22
    have T3 : Hid ((xl.map (Value.int .u8)).toArray.all (·.oneCell') = true) := by unfold Hid; simp [Value.oneCell']
    go_wp2_with (first | (refine wpList_store_mid rfl 22 _ _ rfl w5.heap.size 0 (xl.map (Value.int .u8)).toArray rfl rfl (by exact T1.out) T2.out T3.out ?_))
    go_meet
    case rel =>
      refine ⟨w5.heap.size, fc', rfl, rfl, ?_, ?_, HK.out.1, HK.out.2.1, HK.out.2.2⟩
      · rw [HXL.out]
        exact row_of_range (World.rangeAt_setCells_same _ _ _ _ (by exact T1.out)) HLEN.out
      · exact HO5.out.after (below_setCells _ (Nat.le_refl _) _ _ _ ((Below.refl _ _).alloc (Nat.le_refl _) _))
  case rest =>
    obtain ⟨hb, fc', rfl, rfl, hr, hone, k2, k3, k4⟩ := hcut
    refine ‹∀ (a : Act) (w : World), Code.wp _ _ _ a w → _› _ _ ?_
    have blk : ∀ b, b < V.heap.size → b ≠ cb → wc.heap[b]? = V.heap[b]? := fun b h1 h2 => (hone.block b (by omega) h2).trans (b1.block b h1)
    have lt : ∀ b o v, b ≠ cb → V.cell? ⟨b, o, none⟩ = some v → wc.cell? ⟨b, o, none⟩ = some v := fun b o v hne h => (World.cell?_of_block (w := V) (blk b (World.block_lt_of_cell? V _ h) hne)).trans h
    have hsV : V.heap.size ≠ cb := by omega
    refine rest_any join port joins withPrev true yb ab cb kb V.heap.size hb pb pv w wc _ _ _ _ _ _ _ _ _ _ _ _ _ _ _ _ _ _ _ _ _ _ _ _ _ _ _ _ _ _ _ _ _ _ _ _ _ _ _ _ _ _ _ _ _ _ _ _ _ _ _ _ _ _ _ _ _ _ _ _ _ _ _ _ _ _ _ _ _ _ _ _ _ _ _ _ _ _ _ _ _ _ _ _ _ _ _ _ _ _ _ _ _ _ _ _ _ _ _ _ _ _ _ _ _ _ _ _ _ _ _ _ _ _ _ _ _ _ _ _ _ _ _ _ _ _ _ _ _ _ _ _ _ _ _ _ _ _ _ _ _ _ _ _ _ _ _ _ _ _ _ _ _ _ _ _ _ _ _ _ _ _ _ _ _ _ _ _ _ _ _ _ _ _ _ _ _ _ _ _ _ _ _ _ _ _ _ _ _ _ _ _ _ _ _ _ _ _ _ _ _ _ _ _ _ _ _ _ _ _ _ _ _ _ _ ?_ ?_ ?_ ?_ ?_ ?_
    · exact HST.out.prev.later (fun o v h => lt _ o v HST.out.kc h) (fun o v h => lt _ o v HST.out.pc h)
    · exact (World.cell?_of_block (w := w1) (hone.block V.heap.size (by omega) hsV)).trans S0.out
    · exact (World.cell?_of_block (w := w1) (hone.block V.heap.size (by omega) hsV)).trans S1.out
    · exact shape_block HST.out.shape (blk kb hkbV HST.out.kc)
    · exact lt _ _ _ HST.out.kc HST.out.kp0
    · intro d1 d3 d4 d5 d6 d7 d8 d9 d10 d11 d13 d14 d15 d18 d20 d21 d22 d23 d26 d27 d28 d29 d30 d31 d32 d33 d34 d35 d36 d37 d38 d39 d40 d41 d42 d43 d44 d45 d46 d47 d48 d49 d50 d51 d52 d53 d54 d55 d56 d57 d58 d59 d60 d61 d62 d63 d64 d65 d66 d67 d68 d69 d70 d71 d72 d73 d74 d75 d76 d77 d78 d79 d80 d81 d82 d83 d84 d85 d86 d87 d88 d89 d90 d91 d92 d93 d94 d95 d96 d97 d98 d99 d100 d101 d102 d103 d104 d105 d106 d107 d108 d109 d110 d111 d112 d113 d114 d115 d116 d117 d118 d119 d120 d121 d122 d123 d124 d125 d126 d127 d128 d129 d130 d131 d132 d133 d134 d135 d136 d137 d138 d139 d140 d141 d142 d143 d144 d145 d146 d147 d148 d149 d150 d151 d152 d153 d154 d155 d156 d157 d158 d159 d160 d161 d162 d163 d164 d165 d166 d167 d168 d169 d170 d171 d172 d173 d174 d175 d176 d177 d178 d179 d180 d181 d182 d183 d184 d185 d186 d187 d188 d189 d190 d191 d192 d193 d194 d195 d196 d197 d198 d199 d200 d201 d202 d203 d204 d205 d206 d207 d208 d209 d210 d211 d212 d213 d214 d215 d216 d217 d218 d219 d220 d221 d222 d223 d224 d225 d226 d227
      refine tail_ll join port yb ab cb hb y8 y9 y10 y11 y12 y13 y14 y15 ks w wc _ _ _ _ _ _ _ _ _ _ _ _ _ _ _ _ _ _ _ _ _ _ _ _ _ _ _ _ _ _ _ _ _ _ _ _ _ _ _ _ _ _ _ _ _ _ _ _ _ _ _ _ _ _ _ _ _ _ _ _ _ _ _ _ _ _ _ _ _ _ _ _ _ _ _ _ _ _ _ _ _ _ _ _ _ _ _ _ _ _ _ _ _ _ _ _ _ _ _ _ _ _ _ _ _ _ _ _ _ _ _ _ _ _ _ _ _ _ _ _ _ _ _ _ _ _ _ _ _ _ _ _ _ _ _ _ _ _ _ _ _ _ _ _ _ _ _ _ _ _ _ _ _ _ _ _ _ _ _ _ _ _ _ _ _ _ _ _ _ _ _ _ _ _ _ _ _ _ _ _ _ _ _ _ _ _ _ _ _ _ _ _ _ _ _ _ _ _ _ _ _ _ _ _ _ _ _ _ _ _ _ _ _ _ _ _ _ _ _ _ hp0 hp1 ?_ ?_ ?_ ?_ hr ?_ ?_
      · rw [hone.cur 16 (by omega), k2]
      · rw [hone.cur 17 (by omega), k3, HST.out.decs]
      · intro i hi
        rw [hone.cur (18 + i) (by omega), k4 i hi]
      · exact row_of_range (fun j v hv => lt _ _ _ HST.out.ac (HST.out.adr j v hv)) rfl
      · exact fun i hi => lt _ _ _ HST.out.yc (HST.out.key i hi)
      · have bl := HST.out.bel
        have hwc := HST.out.wc
        refine ⟨hone.os.trans (b1.os.trans bl.os), hone.tape.trans (b1.tape.trans bl.tape), hone.output.trans (b1.output.trans bl.output), Nat.le_trans bl.size (Nat.le_trans b1.size hone.size), fun k hk => ?_⟩
        exact (blk k (Nat.lt_of_lt_of_le hk bl.size) (by omega)).trans (bl.block k hk)
end Go.Proofs.YbulkedcqDoor
