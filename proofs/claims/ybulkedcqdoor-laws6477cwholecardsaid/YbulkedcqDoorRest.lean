import Derived.Test.YbulkedcqDoorTailLL
namespace Go.Proofs.YbulkedcqDoor
open Go.RowKit
attribute [local go_sem ↓] Go.wp_at_zero Go.wp_at_succ

/-- What the previous key's place holds: nothing, or a block of its own that nobody has called. -/
def PrevAt (withPrev : Bool) (kb pb : Nat) (pv : Option Addr) (W : World) : Prop :=
  if withPrev = true then pv = some ⟨pb, 0, none⟩ ∧ W.cell? ⟨kb, 1, none⟩ = some (.iface 24 (.pointer (some ⟨pb, 0, none⟩))) ∧ W.cell? ⟨pb, 16, none⟩ = some (.int .i64 0) ∧ W.cell? ⟨pb, 17, none⟩ = some (.int .i64 0)
  else W.cell? ⟨kb, 1, none⟩ = some .nilIface

set_option maxHeartbeats 8000000 in
set_option maxRecDepth 100000 in
theorem rest_any (join port joins : Int) (withPrev ok : Bool) (yb ab cb kb sb hb pb : Nat) (pv : Option Addr) (w W : World) (c1 c3 c4 c5 c8 c9 c10 c11 c13 c14 c15 c18 c23 c26 c27 c28 c29 c30 c31 c32 c33 c34 c35 c36 c37 c38 c39 c40 c41 c42 c43 c44 c45 c46 c47 c48 c49 c50 c51 c52 c53 c54 c55 c56 c57 c58 c59 c60 c61 c62 c63 c64 c65 c66 c67 c68 c69 c70 c71 c72 c73 c74 c75 c76 c77 c78 c79 c80 c81 c82 c83 c84 c85 c86 c87 c88 c89 c90 c91 c92 c93 c94 c95 c96 c97 c98 c99 c100 c101 c102 c103 c104 c105 c106 c107 c108 c109 c110 c111 c112 c113 c114 c115 c116 c117 c118 c119 c120 c121 c122 c123 c124 c125 c126 c127 c128 c129 c130 c131 c132 c133 c134 c135 c136 c137 c138 c139 c140 c141 c142 c143 c144 c145 c146 c147 c148 c149 c150 c151 c152 c153 c154 c155 c156 c157 c158 c159 c160 c161 c162 c163 c164 c165 c166 c167 c168 c169 c170 c171 c172 c173 c174 c175 c176 c177 c178 c179 c180 c181 c182 c183 c184 c185 c186 c187 c188 c189 c190 c191 c192 c193 c194 c195 c196 c197 c198 c199 c200 c201 c202 c203 c204 c205 c206 c207 c208 c209 c210 c211 c212 c213 c214 c215 c216 c217 c218 c219 c220 c221 c222 c223 c224 c225 c226 c227 : Value)
    (hpv : PrevAt withPrev kb pb pv W)
    (hs0 : W.cell? ⟨sb, 0, none⟩ = some (.pointer (some ⟨kb, 0, none⟩))) (hs1 : W.cell? ⟨sb, 1, none⟩ = some (.int .i64 joins)) (hks : W.shape? kb = some (31, 2)) (hk0 : W.cell? ⟨kb, 0, none⟩ = some (.iface 24 (.pointer (some ⟨cb, 0, none⟩))))
    (htail : Hid (∀ c1 c3 c4 c5 c6 c7 c8 c9 c10 c11 c13 c14 c15 c18 c20 c21 c22 c23 c26 c27 c28 c29 c30 c31 c32 c33 c34 c35 c36 c37 c38 c39 c40 c41 c42 c43 c44 c45 c46 c47 c48 c49 c50 c51 c52 c53 c54 c55 c56 c57 c58 c59 c60 c61 c62 c63 c64 c65 c66 c67 c68 c69 c70 c71 c72 c73 c74 c75 c76 c77 c78 c79 c80 c81 c82 c83 c84 c85 c86 c87 c88 c89 c90 c91 c92 c93 c94 c95 c96 c97 c98 c99 c100 c101 c102 c103 c104 c105 c106 c107 c108 c109 c110 c111 c112 c113 c114 c115 c116 c117 c118 c119 c120 c121 c122 c123 c124 c125 c126 c127 c128 c129 c130 c131 c132 c133 c134 c135 c136 c137 c138 c139 c140 c141 c142 c143 c144 c145 c146 c147 c148 c149 c150 c151 c152 c153 c154 c155 c156 c157 c158 c159 c160 c161 c162 c163 c164 c165 c166 c167 c168 c169 c170 c171 c172 c173 c174 c175 c176 c177 c178 c179 c180 c181 c182 c183 c184 c185 c186 c187 c188 c189 c190 c191 c192 c193 c194 c195 c196 c197 c198 c199 c200 c201 c202 c203 c204 c205 c206 c207 c208 c209 c210 c211 c212 c213 c214 c215 c216 c217 c218 c219 c220 c221 c222 c223 c224 c225 c226 c227 : Value, Code.wp Ybad.prog ((Ybad.f3.body.bind (fromR 26)).getD .skip) (bodyPost Ybad.prog Ybad.f3 (fun e w' => e = .returned (.bool true) ∧ Below w.heap.size w w')) ⟨#[.int .i64 join, c1, .int .u16 port, c3, c4, c5, c6, c7, c8, c9, c10, c11, .pointer (some ⟨yb, 0, none⟩), c13, c14, c15, .bool false, .pointer (some ⟨ab, 0, none⟩), c18, .pointer (some ⟨cb, 0, none⟩), c20, c21, c22, c23, .pointer (some ⟨hb, 0, none⟩), .bool ok, c26, c27, c28, c29, c30, c31, c32, c33, c34, c35, c36, c37, c38, c39, c40, c41, c42, c43, c44, c45, c46, c47, c48, c49, c50, c51, c52, c53, c54, c55, c56, c57, c58, c59, c60, c61, c62, c63, c64, c65, c66, c67, c68, c69, c70, c71, c72, c73, c74, c75, c76, c77, c78, c79, c80, c81, c82, c83, c84, c85, c86, c87, c88, c89, c90, c91, c92, c93, c94, c95, c96, c97, c98, c99, c100, c101, c102, c103, c104, c105, c106, c107, c108, c109, c110, c111, c112, c113, c114, c115, c116, c117, c118, c119, c120, c121, c122, c123, c124, c125, c126, c127, c128, c129, c130, c131, c132, c133, c134, c135, c136, c137, c138, c139, c140, c141, c142, c143, c144, c145, c146, c147, c148, c149, c150, c151, c152, c153, c154, c155, c156, c157, c158, c159, c160, c161, c162, c163, c164, c165, c166, c167, c168, c169, c170, c171, c172, c173, c174, c175, c176, c177, c178, c179, c180, c181, c182, c183, c184, c185, c186, c187, c188, c189, c190, c191, c192, c193, c194, c195, c196, c197, c198, c199, c200, c201, c202, c203, c204, c205, c206, c207, c208, c209, c210, c211, c212, c213, c214, c215, c216, c217, c218, c219, c220, c221, c222, c223, c224, c225, c226, c227], []⟩ W)) :
    Code.wp Ybad.prog ((Ybad.f3.body.bind (fromR 19)).getD .skip) (bodyPost Ybad.prog Ybad.f3 (fun e w' => e = .returned (.bool true) ∧ Below w.heap.size w w')) ⟨#[.int .i64 join, c1, .int .u16 port, c3, c4, c5, .bool withPrev, .int .i64 joins, c8, c9, c10, c11, .pointer (some ⟨yb, 0, none⟩), c13, c14, c15, .bool false, .pointer (some ⟨ab, 0, none⟩), c18, .pointer (some ⟨cb, 0, none⟩), .pointer pv, .pointer (some ⟨kb, 0, none⟩), .pointer (some ⟨sb, 0, none⟩), c23, .pointer (some ⟨hb, 0, none⟩), .bool ok, c26, c27, c28, c29, c30, c31, c32, c33, c34, c35, c36, c37, c38, c39, c40, c41, c42, c43, c44, c45, c46, c47, c48, c49, c50, c51, c52, c53, c54, c55, c56, c57, c58, c59, c60, c61, c62, c63, c64, c65, c66, c67, c68, c69, c70, c71, c72, c73, c74, c75, c76, c77, c78, c79, c80, c81, c82, c83, c84, c85, c86, c87, c88, c89, c90, c91, c92, c93, c94, c95, c96, c97, c98, c99, c100, c101, c102, c103, c104, c105, c106, c107, c108, c109, c110, c111, c112, c113, c114, c115, c116, c117, c118, c119, c120, c121, c122, c123, c124, c125, c126, c127, c128, c129, c130, c131, c132, c133, c134, c135, c136, c137, c138, c139, c140, c141, c142, c143, c144, c145, c146, c147, c148, c149, c150, c151, c152, c153, c154, c155, c156, c157, c158, c159, c160, c161, c162, c163, c164, c165, c166, c167, c168, c169, c170, c171, c172, c173, c174, c175, c176, c177, c178, c179, c180, c181, c182, c183, c184, c185, c186, c187, c188, c189, c190, c191, c192, c193, c194, c195, c196, c197, c198, c199, c200, c201, c202, c203, c204, c205, c206, c207, c208, c209, c210, c211, c212, c213, c214, c215, c216, c217, c218, c219, c220, c221, c222, c223, c224, c225, c226, c227], []⟩ W := by
  have q1 := neq_ptr27
  have q2 := neq_iface
  have q3 := neq_nil
  have HPV : Hid (PrevAt withPrev kb pb pv W) := hpv
  clear hpv
  conv => arg 2; whnf
  go_wp2_with fail
  refine (load_any sb kb _ hs0 hks).mono ?_
  rintro e w' ⟨rfl, hw'⟩
  have hw'' := hw'.symm
  subst hw''
  dsimp only
  go_upto_if 99 with fail
  go_cut [16] (fun s wx => s = .bool false ∧ wx = W)
  case first =>
    have hpv := HPV.out
    unfold PrevAt at hpv
    cases withPrev with
    | true =>
      simp only [if_true] at hpv
      obtain ⟨rfl, hp1, hp2, hp3⟩ := hpv
      go_wp2_with fail
      go_meet
      case rel => exact ⟨rfl, rfl⟩
    | false =>
      simp only [if_false, Bool.false_eq_true] at hpv
      go_wp2_with fail
      go_meet
      case rel => exact ⟨rfl, rfl⟩
  case rest =>
    obtain ⟨rfl, rfl⟩ := hcut
    refine ‹∀ (a : Act) (w : World), Code.wp _ _ _ a w → _› _ _ ?_
    exact htail.out _ _ _ _ _ _ _ _ _ _ _ _ _ _ _ _ _ _ _ _ _ _ _ _ _ _ _ _ _ _ _ _ _ _ _ _ _ _ _ _ _ _ _ _ _ _ _ _ _ _ _ _ _ _ _ _ _ _ _ _ _ _ _ _ _ _ _ _ _ _ _ _ _ _ _ _ _ _ _ _ _ _ _ _ _ _ _ _ _ _ _ _ _ _ _ _ _ _ _ _ _ _ _ _ _ _ _ _ _ _ _ _ _ _ _ _ _ _ _ _ _ _ _ _ _ _ _ _ _ _ _ _ _ _ _ _ _ _ _ _ _ _ _ _ _ _ _ _ _ _ _ _ _ _ _ _ _ _ _ _ _ _ _ _ _ _ _ _ _ _ _ _ _ _ _ _ _ _ _ _ _ _ _ _ _ _ _ _ _ _ _ _ _ _ _ _ _ _ _ _ _ _ _ _ _ _ _ _ _ _ _ _ _ _ _ _ _ _ _ _
end Go.Proofs.YbulkedcqDoor
