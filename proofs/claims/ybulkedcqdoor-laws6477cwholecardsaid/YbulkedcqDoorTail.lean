import Derived.Test.YbulkedcqDoorSealLL
import Derived.Deep.DeepCutAuto
namespace Go.Proofs.YbulkedcqDoor
open Go.RowKit
attribute [local go_sem ↓] Go.wp_at_zero Go.wp_at_succ

/-- The region with which a piece of code begins. -/
def headR : Code → Option Nat
  | .region i _ _ => some i
  | .seq a _ => headR a
  | .block _ c => headR c
  | .scope c => headR c
  | _ => none
/-- The code from the region with this number on. -/
def fromR (n : Nat) : Code → Option Code
  | .seq a b => if headR a == some n then some (.seq a b) else fromR n b
  | .block _ c => fromR n c
  | .scope c => fromR n c
  | _ => none

theorem neq_ptr27 (a : Addr) (w : World) : (binOp .neq 27 (.pointer (some a)) (.pointer (some a))).run Ybad.prog w = .ok (.bool false) w := by
  obtain ⟨j, hj, _⟩ := info31
  exact Lib.run_neq_ptr_same w a Ybad.underlying27 hj

theorem info24 : ∃ j, Ybad.prog.info? 24 = some j ∧ j.comparable = true := by
  have h : (Ybad.prog.info? 24).map (fun i => i.comparable) = some true := by kernel_rfl
  obtain ⟨j, hj, h0⟩ := Option.map_eq_some_iff.1 h
  exact ⟨j, hj, h0⟩
theorem info26 : ∃ j, Ybad.prog.info? 26 = some j := by
  have h : (Ybad.prog.info? 26).map (fun i => i.size) = some 34 := by kernel_rfl
  obtain ⟨j, hj, _⟩ := Option.map_eq_some_iff.1 h
  exact ⟨j, hj⟩

theorem neq_iface (a : Addr) (w : World) : (binOp .neq 29 (.iface 24 (.pointer (some a))) (.iface 24 (.pointer (some a)))).run Ybad.prog w = .ok (.bool false) w := by
  obtain ⟨j, hj, hc⟩ := info24
  obtain ⟨i, hi⟩ := info26
  have h : ∀ d : Nat, (Op.equalIn (d + 1) 24 (.pointer (some a)) (.pointer (some a))).run Ybad.prog w = .ok true w := fun d => by
    simp [Op.equalIn, run_underlying Ybad.underlying24, sizeOf, typeInfo, hi, run_sameAddr_same]
  have h2 : ∀ d : Nat, (Op.equalIn (d + 2) 29 (.iface 24 (.pointer (some a))) (.iface 24 (.pointer (some a)))).run Ybad.prog w = .ok true w := fun d => by
    rw [Op.equalIn]
    simp [run_underlying Ybad.underlying29, typeInfo, hj, hc, h d]
  simp only [binOp]
  simp [Op.equal, Op.maxDepth, h2 9998]

theorem neq_nil (w : World) : (binOp .neq 29 .nilIface .nilIface).run Ybad.prog w = .ok (.bool false) w := by
  have h2 : ∀ d : Nat, (Op.equalIn (d + 1) 29 .nilIface .nilIface).run Ybad.prog w = .ok true w := fun d => by
    simp [Op.equalIn, run_underlying Ybad.underlying29]
  simp only [binOp]
  simp [Op.equal, Op.maxDepth, h2 9999]

/-- Sixteen cells of a block hold these bytes. -/
def Row16 (w : World) (b o : Nat) (xs : List Int) : Prop := ∀ i, i < 16 → w.cell? ⟨b, o + i, none⟩ = some (.int .u8 (xs.getD i 0))


/-- Is the prefix fe80::/64, so far as the first k bytes tell? -/
def llTo (ys : List Int) (k : Nat) : Bool := (ys.getD 0 0 == 254 && ys.getD 1 0 == 128) && (List.range k).all fun j => decide (j < 2) || ys.getD j 0 == 0

theorem llTo_two (ys : List Int) : llTo ys 2 = (ys.getD 0 0 == 254 && ys.getD 1 0 == 128) := by
  simp [llTo, List.range, List.range.loop]

theorem llTo_succ (ys : List Int) (k : Nat) (hk : 2 ≤ k) : llTo ys (k + 1) = (llTo ys k && ys.getD k 0 == 0) := by
  unfold llTo
  rw [List.range_succ, List.all_append]
  have : decide (k < 2) = false := by simp; omega
  simp only [List.all_cons, List.all_nil, this, Bool.false_or, Bool.and_true, Bool.and_assoc]

theorem llTo_eight (ys : List Int) (h : ys.length = 16) : llTo ys 8 = (ys.take 8 == [254, 128, 0, 0, 0, 0, 0, 0]) := by
  match ys, h with
  | [y0, y1, y2, y3, y4, y5, y6, y7, y8, y9, y10, y11, y12, y13, y14, y15], _ =>
    simp [llTo, List.range, List.range.loop, Bool.and_assoc]

theorem eql22 (w : World) : (binOp .eql 22 (.agg #[.int .u8 0, .int .u8 0, .int .u8 0, .int .u8 0, .int .u8 0, .int .u8 0, .int .u8 0, .int .u8 0, .int .u8 0, .int .u8 0, .int .u8 0, .int .u8 0, .int .u8 0, .int .u8 0, .int .u8 0, .int .u8 0]) (.agg #[.int .u8 0, .int .u8 0, .int .u8 0, .int .u8 0, .int .u8 0, .int .u8 0, .int .u8 0, .int .u8 0, .int .u8 0, .int .u8 0, .int .u8 0, .int .u8 0, .int .u8 0, .int .u8 0, .int .u8 0, .int .u8 0])).run Ybad.prog w = .ok (.bool true) w :=
  eql_u8s Ybad.underlying22 [0, 0, 0, 0, 0, 0, 0, 0, 0, 0, 0, 0, 0, 0, 0, 0] [0, 0, 0, 0, 0, 0, 0, 0, 0, 0, 0, 0, 0, 0, 0, 0] rfl rfl w

set_option maxHeartbeats 8000000 in
set_option maxRecDepth 100000 in
theorem tail_no (join port : Int) (yb ab cb hb : Nat) (ys : List Int) (w W : World) (c1 c3 c4 c5 c6 c7 c8 c9 c10 c11 c13 c14 c15 c18 c20 c21 c22 c23 c26 c27 c28 c29 c30 c31 c32 c33 c34 c35 c36 c37 c38 c39 c40 c41 c42 c43 c44 c45 c46 c47 c48 c49 c50 c51 c52 c53 c54 c55 c56 c57 c58 c59 c60 c61 c62 c63 c64 c65 c66 c67 c68 c69 c70 c71 c72 c73 c74 c75 c76 c77 c78 c79 c80 c81 c82 c83 c84 c85 c86 c87 c88 c89 c90 c91 c92 c93 c94 c95 c96 c97 c98 c99 c100 c101 c102 c103 c104 c105 c106 c107 c108 c109 c110 c111 c112 c113 c114 c115 c116 c117 c118 c119 c120 c121 c122 c123 c124 c125 c126 c127 c128 c129 c130 c131 c132 c133 c134 c135 c136 c137 c138 c139 c140 c141 c142 c143 c144 c145 c146 c147 c148 c149 c150 c151 c152 c153 c154 c155 c156 c157 c158 c159 c160 c161 c162 c163 c164 c165 c166 c167 c168 c169 c170 c171 c172 c173 c174 c175 c176 c177 c178 c179 c180 c181 c182 c183 c184 c185 c186 c187 c188 c189 c190 c191 c192 c193 c194 c195 c196 c197 c198 c199 c200 c201 c202 c203 c204 c205 c206 c207 c208 c209 c210 c211 c212 c213 c214 c215 c216 c217 c218 c219 c220 c221 c222 c223 c224 c225 c226 c227 : Value)
    (hc16 : W.cell? ⟨cb, 16, none⟩ = some (.int .i64 0)) (hc17 : W.cell? ⟨cb, 17, none⟩ = some (.int .i64 0)) (ha : Row16 W ab 0 ys) (hh : W.rangeAt hb 0 z16) (hbel : Below w.heap.size w W)
    (hno : (ys.take 8 == [254, 128, 0, 0, 0, 0, 0, 0]) = false) (hyl : ys.length = 16) :
    Code.wp Ybad.prog ((Ybad.f3.body.bind (fromR 26)).getD .skip) (bodyPost Ybad.prog Ybad.f3 (fun e w' => e = .returned (.bool true) ∧ Below w.heap.size w w')) ⟨#[.int .i64 join, c1, .int .u16 port, c3, c4, c5, c6, c7, c8, c9, c10, c11, .pointer (some ⟨yb, 0, none⟩), c13, c14, c15, .bool false, .pointer (some ⟨ab, 0, none⟩), c18, .pointer (some ⟨cb, 0, none⟩), c20, c21, c22, c23, .pointer (some ⟨hb, 0, none⟩), .bool false, c26, c27, c28, c29, c30, c31, c32, c33, c34, c35, c36, c37, c38, c39, c40, c41, c42, c43, c44, c45, c46, c47, c48, c49, c50, c51, c52, c53, c54, c55, c56, c57, c58, c59, c60, c61, c62, c63, c64, c65, c66, c67, c68, c69, c70, c71, c72, c73, c74, c75, c76, c77, c78, c79, c80, c81, c82, c83, c84, c85, c86, c87, c88, c89, c90, c91, c92, c93, c94, c95, c96, c97, c98, c99, c100, c101, c102, c103, c104, c105, c106, c107, c108, c109, c110, c111, c112, c113, c114, c115, c116, c117, c118, c119, c120, c121, c122, c123, c124, c125, c126, c127, c128, c129, c130, c131, c132, c133, c134, c135, c136, c137, c138, c139, c140, c141, c142, c143, c144, c145, c146, c147, c148, c149, c150, c151, c152, c153, c154, c155, c156, c157, c158, c159, c160, c161, c162, c163, c164, c165, c166, c167, c168, c169, c170, c171, c172, c173, c174, c175, c176, c177, c178, c179, c180, c181, c182, c183, c184, c185, c186, c187, c188, c189, c190, c191, c192, c193, c194, c195, c196, c197, c198, c199, c200, c201, c202, c203, c204, c205, c206, c207, c208, c209, c210, c211, c212, c213, c214, c215, c216, c217, c218, c219, c220, c221, c222, c223, c224, c225, c226, c227], []⟩ W := by
  have q1 := eql22
  have r0 := hh 0 _ rfl
  have r1 := hh 1 _ rfl
  have r2 := hh 2 _ rfl
  have r3 := hh 3 _ rfl
  have r4 := hh 4 _ rfl
  have r5 := hh 5 _ rfl
  have r6 := hh 6 _ rfl
  have r7 := hh 7 _ rfl
  have r8 := hh 8 _ rfl
  have r9 := hh 9 _ rfl
  have r10 := hh 10 _ rfl
  have r11 := hh 11 _ rfl
  have r12 := hh 12 _ rfl
  have r13 := hh 13 _ rfl
  have r14 := hh 14 _ rfl
  have r15 := hh 15 _ rfl
  simp only [Nat.zero_add] at r0 r1 r2 r3 r4 r5 r6 r7 r8 r9 r10 r11 r12 r13 r14 r15
  clear hh
  have HBEL : Hid (Below w.heap.size w W) := hbel
  have HA : Hid (∀ i, i < 16 → W.cell? ⟨ab, i, none⟩ = some (.int .u8 (ys.getD i 0))) := fun i hi => by have := ha i hi; rwa [Nat.zero_add] at this
  have a0 := HA.out 0 (by omega)
  have a1 := HA.out 1 (by omega)
  have HL2 := llTo_two ys
  have HL8 : Hid (llTo ys 8 = false) := by unfold Hid; rw [llTo_eight ys hyl]; exact hno
  clear hbel ha hno
  generalize ys.getD 0 0 = y0 at a0 HL2
  generalize ys.getD 1 0 = y1 at a1 HL2
  have HL : Hid (llTo ys 2 = (y0 == 254 && y1 == 128)) := HL2
  clear HL2
  conv => arg 2; whnf
  by_cases e0 : y0 = 254
  all_goals
    first | (have b0 : (y0 == 254) = true := by simp [e0]) | (have b0 : (y0 == 254) = false := by simp [e0])
    have E0 := e0
    clear e0
    go_wp2
    go_loop [26, 27] (fun s i => ∃ k : Nat, 2 ≤ k ∧ k ≤ 8 ∧ i = .int .i64 k ∧ s = .bool (llTo ys k)) (fun _ i => 8 - (intOf i).toNat)
    case atStart => exact ⟨2, by omega, by omega, rfl, by rw [HL.out, b0]; simp⟩
    case round =>
      obtain ⟨k, h2, h8, rfl, rfl⟩ := hrel
      by_cases hlt : k < 8
      · have ak := HA.out k (by omega)
        have HS : Hid (llTo ys (k + 1) = (llTo ys k && ys.getD k 0 == 0)) := llTo_succ ys k h2
        generalize ys.getD k 0 = y at ak HS
        generalize llTo ys k = L at *
        have b1 : (0 : Int) ≤ (k : Int) := by omega
        have b2 : (k : Int) < 16 := by omega
        by_cases ey : y = 0
        · have by0 : (y != 0) = false := by simp [ey]
          have HY : Hid (y = 0) := ey
          clear ey
          go_wp2
          go_round
          case rel => exact ⟨k + 1, by omega, by omega, by go_num, by rw [HS.out, HY.out]; simp⟩
          case measure => simp [intOf]; omega
        · have by0 : (y != 0) = true := by simp [ey]
          have HY : Hid (¬ y = 0) := ey
          clear ey
          go_wp2
          go_round
          case rel => exact ⟨k + 1, by omega, by omega, by go_num, by rw [HS.out]; simp [HY.out]⟩
          case measure => simp [intOf]; omega
      · obtain rfl : k = 8 := by omega
        have hl8 := HL8.out
        go_wp2
        go_ret
        exact ⟨rfl, HBEL.out⟩
end Go.Proofs.YbulkedcqDoor
