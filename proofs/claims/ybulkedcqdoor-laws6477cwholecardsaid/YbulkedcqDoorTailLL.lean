import Derived.Test.YbulkedcqDoorTail
import Derived.Test.YbulkedcqDoorMask
namespace Go.Proofs.YbulkedcqDoor
open Go.RowKit
attribute [local go_sem ↓] Go.wp_at_zero Go.wp_at_succ

theorem neq22 (join port y8 y9 y10 y11 y12 y13 y14 y15 : Int) (w : World) : (binOp .neq 22 (.agg #[.int .u8 0, .int .u8 (join % 256), .int .u8 (port / 256), .int .u8 (port % 256), .int .u8 y8, .int .u8 y9, .int .u8 y10, .int .u8 y11, .int .u8 y12, .int .u8 y13, .int .u8 y14, .int .u8 y15, .int .u8 0, .int .u8 0, .int .u8 0, .int .u8 0]) (.agg #[.int .u8 0, .int .u8 (join % 256), .int .u8 (port / 256), .int .u8 (port % 256), .int .u8 y8, .int .u8 y9, .int .u8 y10, .int .u8 y11, .int .u8 y12, .int .u8 y13, .int .u8 y14, .int .u8 y15, .int .u8 0, .int .u8 0, .int .u8 0, .int .u8 0])).run Ybad.prog w = .ok (.bool false) w := by
  have h := neq_u8s Ybad.underlying22 (plainOf join port y8 y9 y10 y11 y12 y13 y14 y15) (plainOf join port y8 y9 y10 y11 y12 y13 y14 y15) rfl rfl w
  rw [beq_self_eq_true] at h
  exact h

theorem xorL_get (pl ks : List Int) (i : Nat) (hi : i < 16) : (xorL pl ks).getD i 0 = bits .xor .u8 (pl.getD i 0) (ks.getD i 0) := by
  simp [xorL, List.getD, hi]

set_option maxHeartbeats 8000000 in
set_option maxRecDepth 100000 in
theorem tail_ll (join port : Int) (yb ab cb hb : Nat) (y8 y9 y10 y11 y12 y13 y14 y15 : Int) (ks : List Int) (w W : World) (c1 c3 c4 c5 c6 c7 c8 c9 c10 c11 c13 c14 c15 c18 c20 c21 c22 c23 c26 c27 c28 c29 c30 c31 c32 c33 c34 c35 c36 c37 c38 c39 c40 c41 c42 c43 c44 c45 c46 c47 c48 c49 c50 c51 c52 c53 c54 c55 c56 c57 c58 c59 c60 c61 c62 c63 c64 c65 c66 c67 c68 c69 c70 c71 c72 c73 c74 c75 c76 c77 c78 c79 c80 c81 c82 c83 c84 c85 c86 c87 c88 c89 c90 c91 c92 c93 c94 c95 c96 c97 c98 c99 c100 c101 c102 c103 c104 c105 c106 c107 c108 c109 c110 c111 c112 c113 c114 c115 c116 c117 c118 c119 c120 c121 c122 c123 c124 c125 c126 c127 c128 c129 c130 c131 c132 c133 c134 c135 c136 c137 c138 c139 c140 c141 c142 c143 c144 c145 c146 c147 c148 c149 c150 c151 c152 c153 c154 c155 c156 c157 c158 c159 c160 c161 c162 c163 c164 c165 c166 c167 c168 c169 c170 c171 c172 c173 c174 c175 c176 c177 c178 c179 c180 c181 c182 c183 c184 c185 c186 c187 c188 c189 c190 c191 c192 c193 c194 c195 c196 c197 c198 c199 c200 c201 c202 c203 c204 c205 c206 c207 c208 c209 c210 c211 c212 c213 c214 c215 c216 c217 c218 c219 c220 c221 c222 c223 c224 c225 c226 c227 : Value) (hp0 : 0 ≤ port) (hp1 : port < 65536)
    (hc16 : W.cell? ⟨cb, 16, none⟩ = some (.int .i64 1)) (hc17 : W.cell? ⟨cb, 17, none⟩ = some (.int .i64 0)) (hcs : Row16 W cb 18 (plainOf join port y8 y9 y10 y11 y12 y13 y14 y15)) (ha : Row16 W ab 0 [254, 128, 0, 0, 0, 0, 0, 0, y8, y9, y10, y11, y12, y13, y14, y15])
    (hh : Row16 W hb 0 (xorL (plainOf join port y8 y9 y10 y11 y12 y13 y14 y15) ks)) (hk : Row16 W yb 0 ks) (hbel : Below w.heap.size w W) :
    Code.wp Ybad.prog ((Ybad.f3.body.bind (fromR 26)).getD .skip) (bodyPost Ybad.prog Ybad.f3 (fun e w' => e = .returned (.bool true) ∧ Below w.heap.size w w')) ⟨#[.int .i64 join, c1, .int .u16 port, c3, c4, c5, c6, c7, c8, c9, c10, c11, .pointer (some ⟨yb, 0, none⟩), c13, c14, c15, .bool false, .pointer (some ⟨ab, 0, none⟩), c18, .pointer (some ⟨cb, 0, none⟩), c20, c21, c22, c23, .pointer (some ⟨hb, 0, none⟩), .bool true, c26, c27, c28, c29, c30, c31, c32, c33, c34, c35, c36, c37, c38, c39, c40, c41, c42, c43, c44, c45, c46, c47, c48, c49, c50, c51, c52, c53, c54, c55, c56, c57, c58, c59, c60, c61, c62, c63, c64, c65, c66, c67, c68, c69, c70, c71, c72, c73, c74, c75, c76, c77, c78, c79, c80, c81, c82, c83, c84, c85, c86, c87, c88, c89, c90, c91, c92, c93, c94, c95, c96, c97, c98, c99, c100, c101, c102, c103, c104, c105, c106, c107, c108, c109, c110, c111, c112, c113, c114, c115, c116, c117, c118, c119, c120, c121, c122, c123, c124, c125, c126, c127, c128, c129, c130, c131, c132, c133, c134, c135, c136, c137, c138, c139, c140, c141, c142, c143, c144, c145, c146, c147, c148, c149, c150, c151, c152, c153, c154, c155, c156, c157, c158, c159, c160, c161, c162, c163, c164, c165, c166, c167, c168, c169, c170, c171, c172, c173, c174, c175, c176, c177, c178, c179, c180, c181, c182, c183, c184, c185, c186, c187, c188, c189, c190, c191, c192, c193, c194, c195, c196, c197, c198, c199, c200, c201, c202, c203, c204, c205, c206, c207, c208, c209, c210, c211, c212, c213, c214, c215, c216, c217, c218, c219, c220, c221, c222, c223, c224, c225, c226, c227], []⟩ W := by
  have HBEL : Hid (Below w.heap.size w W) := hbel
  have HA : Hid (∀ i, i < 16 → W.cell? ⟨ab, i, none⟩ = some (.int .u8 (([254, 128, 0, 0, 0, 0, 0, 0, y8, y9, y10, y11, y12, y13, y14, y15] : List Int).getD i 0))) := fun i hi => by have := ha i hi; rwa [Nat.zero_add] at this
  have HCS : Hid (Row16 W cb 18 (plainOf join port y8 y9 y10 y11 y12 y13 y14 y15)) := hcs
  have HH : Hid (Row16 W hb 0 (xorL (plainOf join port y8 y9 y10 y11 y12 y13 y14 y15) ks)) := hh
  have HK : Hid (Row16 W yb 0 ks) := hk
  have a0 : W.cell? ⟨ab, 0, none⟩ = some (.int .u8 254) := HA.out 0 (by omega)
  have a1 : W.cell? ⟨ab, 1, none⟩ = some (.int .u8 128) := HA.out 1 (by omega)
  have a2 : W.cell? ⟨ab, 2, none⟩ = some (.int .u8 0) := HA.out 2 (by omega)
  have a3 : W.cell? ⟨ab, 3, none⟩ = some (.int .u8 0) := HA.out 3 (by omega)
  have a4 : W.cell? ⟨ab, 4, none⟩ = some (.int .u8 0) := HA.out 4 (by omega)
  have a5 : W.cell? ⟨ab, 5, none⟩ = some (.int .u8 0) := HA.out 5 (by omega)
  have a6 : W.cell? ⟨ab, 6, none⟩ = some (.int .u8 0) := HA.out 6 (by omega)
  have a7 : W.cell? ⟨ab, 7, none⟩ = some (.int .u8 0) := HA.out 7 (by omega)
  have a8 : W.cell? ⟨ab, 8, none⟩ = some (.int .u8 y8) := HA.out 8 (by omega)
  have a9 : W.cell? ⟨ab, 9, none⟩ = some (.int .u8 y9) := HA.out 9 (by omega)
  have a10 : W.cell? ⟨ab, 10, none⟩ = some (.int .u8 y10) := HA.out 10 (by omega)
  have a11 : W.cell? ⟨ab, 11, none⟩ = some (.int .u8 y11) := HA.out 11 (by omega)
  have a12 : W.cell? ⟨ab, 12, none⟩ = some (.int .u8 y12) := HA.out 12 (by omega)
  have a13 : W.cell? ⟨ab, 13, none⟩ = some (.int .u8 y13) := HA.out 13 (by omega)
  have a14 : W.cell? ⟨ab, 14, none⟩ = some (.int .u8 y14) := HA.out 14 (by omega)
  have a15 : W.cell? ⟨ab, 15, none⟩ = some (.int .u8 y15) := HA.out 15 (by omega)
  have hab : ab < W.heap.size := World.block_lt_of_cell? W ⟨ab, 0, none⟩ a0
  clear hbel ha hcs hh hk
  have jb := join_byte join
  have pb := port_byte port
  have q1 := neq22 join port y8 y9 y10 y11 y12 y13 y14 y15
  have s0 : W.cell? ⟨cb, 18, none⟩ = some (.int .u8 0) := HCS.out 0 (by omega)
  have s1 : W.cell? ⟨cb, 19, none⟩ = some (.int .u8 (join % 256)) := HCS.out 1 (by omega)
  have s2 : W.cell? ⟨cb, 20, none⟩ = some (.int .u8 (port / 256)) := HCS.out 2 (by omega)
  have s3 : W.cell? ⟨cb, 21, none⟩ = some (.int .u8 (port % 256)) := HCS.out 3 (by omega)
  have s4 : W.cell? ⟨cb, 22, none⟩ = some (.int .u8 y8) := HCS.out 4 (by omega)
  have s5 : W.cell? ⟨cb, 23, none⟩ = some (.int .u8 y9) := HCS.out 5 (by omega)
  have s6 : W.cell? ⟨cb, 24, none⟩ = some (.int .u8 y10) := HCS.out 6 (by omega)
  have s7 : W.cell? ⟨cb, 25, none⟩ = some (.int .u8 y11) := HCS.out 7 (by omega)
  have s8 : W.cell? ⟨cb, 26, none⟩ = some (.int .u8 y12) := HCS.out 8 (by omega)
  have s9 : W.cell? ⟨cb, 27, none⟩ = some (.int .u8 y13) := HCS.out 9 (by omega)
  have s10 : W.cell? ⟨cb, 28, none⟩ = some (.int .u8 y14) := HCS.out 10 (by omega)
  have s11 : W.cell? ⟨cb, 29, none⟩ = some (.int .u8 y15) := HCS.out 11 (by omega)
  have s12 : W.cell? ⟨cb, 30, none⟩ = some (.int .u8 0) := HCS.out 12 (by omega)
  have s13 : W.cell? ⟨cb, 31, none⟩ = some (.int .u8 0) := HCS.out 13 (by omega)
  have s14 : W.cell? ⟨cb, 32, none⟩ = some (.int .u8 0) := HCS.out 14 (by omega)
  have s15 : W.cell? ⟨cb, 33, none⟩ = some (.int .u8 0) := HCS.out 15 (by omega)
  have hcbw : cb < W.heap.size := World.block_lt_of_cell? W ⟨cb, 16, none⟩ hc16
  conv => arg 2; whnf
  go_wp2_with fail
  refine wp_loop_rounds 7 ?_
  iterate 7 (rw [rounds_succ]; go_wp2_with fail)
  refine wp_loop_rounds 9 ?_
  iterate 9 (rw [rounds_succ]; go_wp2_with fail)
  go_quiet (fail)
  go_wp2_with fail
  have hb3 : Below W.heap.size W ((W.alloc (.cells #[.int .u8 0, .int .u8 (join % 256), .int .u8 (port / 256), .int .u8 (port % 256), .int .u8 y8, .int .u8 y9, .int .u8 y10, .int .u8 y11, .int .u8 y12, .int .u8 y13, .int .u8 y14, .int .u8 y15, .int .u8 0, .int .u8 0, .int .u8 0, .int .u8 0] 22)).drewN nq) := below_drewN ((Below.refl _ _).alloc (Nat.le_refl _) _) _
  have F1 : Hid (∀ i, i < 16 → ((W.alloc (.cells #[.int .u8 0, .int .u8 (join % 256), .int .u8 (port / 256), .int .u8 (port % 256), .int .u8 y8, .int .u8 y9, .int .u8 y10, .int .u8 y11, .int .u8 y12, .int .u8 y13, .int .u8 y14, .int .u8 y15, .int .u8 0, .int .u8 0, .int .u8 0, .int .u8 0] 22)).drewN nq).cell? ⟨hb, i, none⟩ = some (.int .u8 ((xorL (plainOf join port y8 y9 y10 y11 y12 y13 y14 y15) ks).getD i 0))) := fun i hi => by
    have e := HH.out i hi
    rw [Nat.zero_add] at e
    exact (hb3.cell (World.block_lt_of_cell? W ⟨hb, i, none⟩ e)).trans e
  have F3 : Hid (∀ i, i < 16 → ((W.alloc (.cells #[.int .u8 0, .int .u8 (join % 256), .int .u8 (port / 256), .int .u8 (port % 256), .int .u8 y8, .int .u8 y9, .int .u8 y10, .int .u8 y11, .int .u8 y12, .int .u8 y13, .int .u8 y14, .int .u8 y15, .int .u8 0, .int .u8 0, .int .u8 0, .int .u8 0] 22)).drewN nq).cell? ⟨yb, i, none⟩ = some (.int .u8 (ks.getD i 0))) := fun i hi => by
    have e := HK.out i hi
    rw [Nat.zero_add] at e
    exact (hb3.cell (World.block_lt_of_cell? W ⟨yb, i, none⟩ e)).trans e
  have F2 : Hid (∀ i, i < 16 → ((W.alloc (.cells #[.int .u8 0, .int .u8 (join % 256), .int .u8 (port / 256), .int .u8 (port % 256), .int .u8 y8, .int .u8 y9, .int .u8 y10, .int .u8 y11, .int .u8 y12, .int .u8 y13, .int .u8 y14, .int .u8 y15, .int .u8 0, .int .u8 0, .int .u8 0, .int .u8 0] 22)).drewN nq).cell? ⟨W.heap.size, i, none⟩ = some (.int .u8 ((plainOf join port y8 y9 y10 y11 y12 y13 y14 y15).getD i 0))) := fun i hi => by
    show (W.alloc (.cells #[.int .u8 0, .int .u8 (join % 256), .int .u8 (port / 256), .int .u8 (port % 256), .int .u8 y8, .int .u8 y9, .int .u8 y10, .int .u8 y11, .int .u8 y12, .int .u8 y13, .int .u8 y14, .int .u8 y15, .int .u8 0, .int .u8 0, .int .u8 0, .int .u8 0] 22)).cell? ⟨W.heap.size, i, none⟩ = _
    rw [World.cell?_alloc_at _ _ _ _ rfl]
    match i, hi with
    | 0, _ | 1, _ | 2, _ | 3, _ | 4, _ | 5, _ | 6, _ | 7, _ | 8, _ | 9, _ | 10, _ | 11, _ | 12, _ | 13, _ | 14, _ | 15, _ => rfl
    | _ + 16, h => omega
  have HB3 : Hid (Below w.heap.size w ((W.alloc (.cells #[.int .u8 0, .int .u8 (join % 256), .int .u8 (port / 256), .int .u8 (port % 256), .int .u8 y8, .int .u8 y9, .int .u8 y10, .int .u8 y11, .int .u8 y12, .int .u8 y13, .int .u8 y14, .int .u8 y15, .int .u8 0, .int .u8 0, .int .u8 0, .int .u8 0] 22)).drewN nq)) := HBEL.out.trans (hb3.mono HBEL.out.size)
  clear hb3 s0 s1 s2 s3 s4 s5 s6 s7 s8 s9 s10 s11 s12 s13 s14 s15 a0 a1 a2 a3 a4 a5 a6 a7 a8 a9 a10 a11 a12 a13 a14 a15 q1 jb pb hc16 hc17
  generalize ((W.alloc (.cells #[.int .u8 0, .int .u8 (join % 256), .int .u8 (port / 256), .int .u8 (port % 256), .int .u8 y8, .int .u8 y9, .int .u8 y10, .int .u8 y11, .int .u8 y12, .int .u8 y13, .int .u8 y14, .int .u8 y15, .int .u8 0, .int .u8 0, .int .u8 0, .int .u8 0] 22)).drewN nq) = V0 at F1 F2 F3 HB3 ⊢
  generalize W.heap.size = pb at F2 ⊢
  generalize plainOf join port y8 y9 y10 y11 y12 y13 y14 y15 = pl at F1 F2
  go_loopw [30] (fun j wr => ∃ k : Nat, k ≤ 16 ∧ j = .int .i64 k ∧ ∃ q, wr = V0.drewN q) (fun j _ => 16 - (intOf j).toNat)
  case atStart => exact ⟨0, by omega, rfl, 0, rfl⟩
  case round =>
    obtain ⟨k, hk, rfl, q, rfl⟩ := hrel
    by_cases hlt : k < 16
    · have f1 := F1.out k hlt
      rw [xorL_get _ _ _ hlt] at f1
      have f2 := F2.out k hlt
      have f3 := F3.out k hlt
      generalize pl.getD k 0 = p at f1 f2
      generalize ks.getD k 0 = y at f1 f3
      have b1 : (0 : Int) ≤ (k : Int) := by omega
      have b2 : (k : Int) < 16 := by omega
      go_wp2
      go_quiet (fail)
      go_wp2
      go_roundw
      case rel => exact ⟨k + 1, by omega, by go_num, _, rfl⟩
      case measure => simp [intOf]; omega
    · go_wp2
      go_ret
      exact ⟨rfl, below_drewN HB3.out _⟩
end Go.Proofs.YbulkedcqDoor
