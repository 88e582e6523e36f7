import Derived.Test.YbulkedcqDoorMidLL
namespace Go.Proofs.YbulkedcqDoor
open Go.RowKit
attribute [local go_sem ↓] Go.wp_at_zero Go.wp_at_succ

/-- What a block cipher's stand-in holds when it is new. -/
def newCur (k0 k1 k2 k3 k4 k5 k6 k7 k8 k9 k10 k11 k12 k13 k14 k15 : Int) : Array Value := #[.int .u8 k0, .int .u8 k1, .int .u8 k2, .int .u8 k3, .int .u8 k4, .int .u8 k5, .int .u8 k6, .int .u8 k7, .int .u8 k8, .int .u8 k9, .int .u8 k10, .int .u8 k11, .int .u8 k12, .int .u8 k13, .int .u8 k14, .int .u8 k15, .int .i64 0, .int .i64 0, .int .u8 0, .int .u8 0, .int .u8 0, .int .u8 0, .int .u8 0, .int .u8 0, .int .u8 0, .int .u8 0, .int .u8 0, .int .u8 0, .int .u8 0, .int .u8 0, .int .u8 0, .int .u8 0, .int .u8 0, .int .u8 0]

theorem heap_new (W : World) (o : Obj) : (W.alloc o).heap[W.heap.size]? = some o := by
  show (W.heap.push o)[W.heap.size]? = some o
  simp
theorem heap_new' (W : World) (o : Obj) (g : Nat) (h : g = W.heap.size) : (W.alloc o).heap[g]? = some o := by rw [h]; exact heap_new W o

/-- The state behind the two structs, whatever was made since. -/
theorem St.make {w V W : World} {withPrev : Bool} {yb ab pb : Nat} {pv z : Option Addr} {k0 k1 k2 k3 k4 k5 k6 k7 k8 k9 k10 k11 k12 k13 k14 k15 : Int} {ys : List Int} {x : Value} (hll : LL V) (hz : V.cell? ⟨0, 0, none⟩ = some (.pointer z)) (h3 : 2 ≤ V.heap.size)
    (hy : V.rangeAt yb 0 [.int .u8 k0, .int .u8 k1, .int .u8 k2, .int .u8 k3, .int .u8 k4, .int .u8 k5, .int .u8 k6, .int .u8 k7, .int .u8 k8, .int .u8 k9, .int .u8 k10, .int .u8 k11, .int .u8 k12, .int .u8 k13, .int .u8 k14, .int .u8 k15]) (ha : V.rangeAt ab 0 (ys.map (Value.int .u8))) (hyl : ys.length = 16) (hbel : Below w.heap.size w V) (hb : Below V.heap.size V W) (hs : V.heap.size + 2 ≤ W.heap.size)
    (hc : W.heap[V.heap.size]? = some (.cells (newCur k0 k1 k2 k3 k4 k5 k6 k7 k8 k9 k10 k11 k12 k13 k14 k15) 26 (0, 0))) (hk : W.heap[V.heap.size + 1]? = some (.cells #[.iface 24 (.pointer (some ⟨V.heap.size, 0, none⟩)), x] 31 (0, 0)))
    (hp : PrevAt withPrev (V.heap.size + 1) pb pv W) (hpc : pb ≠ V.heap.size) :
    St w W withPrev yb ab V.heap.size (V.heap.size + 1) pb pv z ys [k0, k1, k2, k3, k4, k5, k6, k7, k8, k9, k10, k11, k12, k13, k14, k15] (fun i => (newCur k0 k1 k2 k3 k4 k5 k6 k7 k8 k9 k10 k11 k12 k13 k14 k15).toList.getD i undef) := by
  have lt : ∀ b o v, V.cell? ⟨b, o, none⟩ = some v → W.cell? ⟨b, o, none⟩ = some v := fun b o v h => (hb.cell (World.block_lt_of_cell? V _ h)).trans h
  have ky : ∀ i, i < 16 → V.cell? ⟨yb, 0 + i, none⟩ = some (.int .u8 (([k0, k1, k2, k3, k4, k5, k6, k7, k8, k9, k10, k11, k12, k13, k14, k15] : List Int).getD i 0)) := fun i hi => by
    refine hy i _ ?_
    match i, hi with
    | 0, _ | 1, _ | 2, _ | 3, _ | 4, _ | 5, _ | 6, _ | 7, _ | 8, _ | 9, _ | 10, _ | 11, _ | 12, _ | 13, _ | 14, _ | 15, _ => rfl
    | _ + 16, h => omega
  refine ⟨hll.later hb h3, lt _ _ _ hz, by omega, fun i hi => lt _ _ _ (ky i hi), fun j v hv => lt _ _ _ (ha j v hv), fun i hi => ?_, fun i hi => ?_, rfl, rfl, fun i => ?_, ?_, ?_, hp, hbel.trans (hb.mono hbel.size), hbel.size, by omega, hpc, ?_, ?_⟩
  · have : i < (newCur k0 k1 k2 k3 k4 k5 k6 k7 k8 k9 k10 k11 k12 k13 k14 k15).size := hi
    simp [World.cell?, hc, List.getD, this]
  · match i, hi with
    | 0, _ | 1, _ | 2, _ | 3, _ | 4, _ | 5, _ | 6, _ | 7, _ | 8, _ | 9, _ | 10, _ | 11, _ | 12, _ | 13, _ | 14, _ | 15, _ => rfl
    | _ + 16, h => omega
  · simp [World.frozen?, hc]
  · simp [World.shape?, hk]
  · simp [World.cell?, hk]
  · have e := World.block_lt_of_cell? V ⟨ab, 0 + 0, none⟩ (ha 0 (.int .u8 (ys.getD 0 0)) (by simp [List.getD, show 0 < ys.length by omega]))
    have e' : ab < V.heap.size := e
    omega
  · have e := World.block_lt_of_cell? V ⟨yb, 0 + 0, none⟩ (ky 0 (by omega))
    have e' : yb < V.heap.size := e
    omega

set_option maxHeartbeats 8000000 in
set_option maxRecDepth 100000 in
theorem start_any (join port joins : Int) (withPrev : Bool) (yb eb ab : Nat) (z : Option Addr) (y0 y1 y2 y3 y4 y5 y6 y7 y8 y9 y10 y11 y12 y13 y14 y15 k0 k1 k2 k3 k4 k5 k6 k7 k8 k9 k10 k11 k12 k13 k14 k15 e0 e1 e2 e3 e4 e5 e6 e7 e8 e9 e10 e11 e12 e13 e14 e15 : Int) (w V : World) (c1 c3 c4 c5 c8 c9 c10 c11 c14 c15 c18 c19 c20 c21 c22 c23 c24 c25 c26 c27 c28 c29 c30 c31 c32 c33 c34 c35 c36 c37 c38 c39 c40 c41 c42 c43 c44 c45 c46 c47 c48 c49 c50 c51 c52 c53 c54 c55 c56 c57 c58 c59 c60 c61 c62 c63 c64 c65 c66 c67 c68 c69 c70 c71 c72 c73 c74 c75 c76 c77 c78 c79 c80 c81 c82 c83 c84 c85 c86 c87 c88 c89 c90 c91 c92 c93 c94 c95 c96 c97 c98 c99 c100 c101 c102 c103 c104 c105 c106 c107 c108 c109 c110 c111 c112 c113 c114 c115 c116 c117 c118 c119 c120 c121 c122 c123 c124 c125 c126 c127 c128 c129 c130 c131 c132 c133 c134 c135 c136 c137 c138 c139 c140 c141 c142 c143 c144 c145 c146 c147 c148 c149 c150 c151 c152 c153 c154 c155 c156 c157 c158 c159 c160 c161 c162 c163 c164 c165 c166 c167 c168 c169 c170 c171 c172 c173 c174 c175 c176 c177 c178 c179 c180 c181 c182 c183 c184 c185 c186 c187 c188 c189 c190 c191 c192 c193 c194 c195 c196 c197 c198 c199 c200 c201 c202 c203 c204 c205 c206 c207 c208 c209 c210 c211 c212 c213 c214 c215 c216 c217 c218 c219 c220 c221 c222 c223 c224 c225 c226 c227 : Value) (hy0 : IsB y0) (hy1 : IsB y1) (hy2 : IsB y2) (hy3 : IsB y3) (hy4 : IsB y4) (hy5 : IsB y5) (hy6 : IsB y6) (hy7 : IsB y7) (hy8 : IsB y8) (hy9 : IsB y9) (hy10 : IsB y10) (hy11 : IsB y11) (hy12 : IsB y12) (hy13 : IsB y13) (hy14 : IsB y14) (hy15 : IsB y15) (hk0 : IsB k0) (hk1 : IsB k1) (hk2 : IsB k2) (hk3 : IsB k3) (hk4 : IsB k4) (hk5 : IsB k5) (hk6 : IsB k6) (hk7 : IsB k7) (hk8 : IsB k8) (hk9 : IsB k9) (hk10 : IsB k10) (hk11 : IsB k11) (hk12 : IsB k12) (hk13 : IsB k13) (hk14 : IsB k14) (hk15 : IsB k15) (hp0 : 0 ≤ port) (hp1 : port < 65536)
    (hll : LL V) (hz : V.cell? ⟨0, 0, none⟩ = some (.pointer z)) (h3 : 2 ≤ V.heap.size) (hyr : V.rangeAt yb 0 [.int .u8 k0, .int .u8 k1, .int .u8 k2, .int .u8 k3, .int .u8 k4, .int .u8 k5, .int .u8 k6, .int .u8 k7, .int .u8 k8, .int .u8 k9, .int .u8 k10, .int .u8 k11, .int .u8 k12, .int .u8 k13, .int .u8 k14, .int .u8 k15]) (her : V.rangeAt eb 0 [.int .u8 e0, .int .u8 e1, .int .u8 e2, .int .u8 e3, .int .u8 e4, .int .u8 e5, .int .u8 e6, .int .u8 e7, .int .u8 e8, .int .u8 e9, .int .u8 e10, .int .u8 e11, .int .u8 e12, .int .u8 e13, .int .u8 e14, .int .u8 e15]) (har : V.rangeAt ab 0 [.int .u8 y0, .int .u8 y1, .int .u8 y2, .int .u8 y3, .int .u8 y4, .int .u8 y5, .int .u8 y6, .int .u8 y7, .int .u8 y8, .int .u8 y9, .int .u8 y10, .int .u8 y11, .int .u8 y12, .int .u8 y13, .int .u8 y14, .int .u8 y15]) (hbel : Below w.heap.size w V) :
    Code.wp Ybad.prog ((Ybad.f3.body.bind (fromR 9)).getD .skip) (bodyPost Ybad.prog Ybad.f3 (fun e w' => e = .returned (.bool true) ∧ Below w.heap.size w w')) ⟨#[.int .i64 join, c1, .int .u16 port, c3, c4, c5, .bool withPrev, .int .i64 joins, c8, c9, c10, c11, .pointer (some ⟨yb, 0, none⟩), .pointer (some ⟨eb, 0, none⟩), c14, c15, .bool false, .pointer (some ⟨ab, 0, none⟩), c18, c19, c20, c21, c22, c23, c24, c25, c26, c27, c28, c29, c30, c31, c32, c33, c34, c35, c36, c37, c38, c39, c40, c41, c42, c43, c44, c45, c46, c47, c48, c49, c50, c51, c52, c53, c54, c55, c56, c57, c58, c59, c60, c61, c62, c63, c64, c65, c66, c67, c68, c69, c70, c71, c72, c73, c74, c75, c76, c77, c78, c79, c80, c81, c82, c83, c84, c85, c86, c87, c88, c89, c90, c91, c92, c93, c94, c95, c96, c97, c98, c99, c100, c101, c102, c103, c104, c105, c106, c107, c108, c109, c110, c111, c112, c113, c114, c115, c116, c117, c118, c119, c120, c121, c122, c123, c124, c125, c126, c127, c128, c129, c130, c131, c132, c133, c134, c135, c136, c137, c138, c139, c140, c141, c142, c143, c144, c145, c146, c147, c148, c149, c150, c151, c152, c153, c154, c155, c156, c157, c158, c159, c160, c161, c162, c163, c164, c165, c166, c167, c168, c169, c170, c171, c172, c173, c174, c175, c176, c177, c178, c179, c180, c181, c182, c183, c184, c185, c186, c187, c188, c189, c190, c191, c192, c193, c194, c195, c196, c197, c198, c199, c200, c201, c202, c203, c204, c205, c206, c207, c208, c209, c210, c211, c212, c213, c214, c215, c216, c217, c218, c219, c220, c221, c222, c223, c224, c225, c226, c227], []⟩ V := by
  have H : Hid (LL V ∧ V.cell? ⟨0, 0, none⟩ = some (.pointer z) ∧ V.rangeAt yb 0 [.int .u8 k0, .int .u8 k1, .int .u8 k2, .int .u8 k3, .int .u8 k4, .int .u8 k5, .int .u8 k6, .int .u8 k7, .int .u8 k8, .int .u8 k9, .int .u8 k10, .int .u8 k11, .int .u8 k12, .int .u8 k13, .int .u8 k14, .int .u8 k15] ∧ V.rangeAt eb 0 [.int .u8 e0, .int .u8 e1, .int .u8 e2, .int .u8 e3, .int .u8 e4, .int .u8 e5, .int .u8 e6, .int .u8 e7, .int .u8 e8, .int .u8 e9, .int .u8 e10, .int .u8 e11, .int .u8 e12, .int .u8 e13, .int .u8 e14, .int .u8 e15] ∧ V.rangeAt ab 0 [.int .u8 y0, .int .u8 y1, .int .u8 y2, .int .u8 y3, .int .u8 y4, .int .u8 y5, .int .u8 y6, .int .u8 y7, .int .u8 y8, .int .u8 y9, .int .u8 y10, .int .u8 y11, .int .u8 y12, .int .u8 y13, .int .u8 y14, .int .u8 y15] ∧ Below w.heap.size w V) := ⟨hll, hz, hyr, her, har, hbel⟩
  clear hll hz hyr her har hbel
  have R1 : Hid (World.rangeAt ((V.alloc (.cells #[.int .u8 k0, .int .u8 k1, .int .u8 k2, .int .u8 k3, .int .u8 k4, .int .u8 k5, .int .u8 k6, .int .u8 k7, .int .u8 k8, .int .u8 k9, .int .u8 k10, .int .u8 k11, .int .u8 k12, .int .u8 k13, .int .u8 k14, .int .u8 k15, .int .i64 0, .int .i64 0, .int .u8 0, .int .u8 0, .int .u8 0, .int .u8 0, .int .u8 0, .int .u8 0, .int .u8 0, .int .u8 0, .int .u8 0, .int .u8 0, .int .u8 0, .int .u8 0, .int .u8 0, .int .u8 0, .int .u8 0, .int .u8 0] 26)).alloc (.cells #[.iface 24 (.pointer (some ⟨V.heap.size, 0, none⟩)), .nilIface] 31)) eb 0 [.int .u8 e0, .int .u8 e1, .int .u8 e2, .int .u8 e3, .int .u8 e4, .int .u8 e5, .int .u8 e6, .int .u8 e7, .int .u8 e8, .int .u8 e9, .int .u8 e10, .int .u8 e11, .int .u8 e12, .int .u8 e13, .int .u8 e14, .int .u8 e15]) := fun j v hv => by
    have e := H.out.2.2.2.1 j v hv
    have b : Below V.heap.size V ((V.alloc (.cells #[.int .u8 k0, .int .u8 k1, .int .u8 k2, .int .u8 k3, .int .u8 k4, .int .u8 k5, .int .u8 k6, .int .u8 k7, .int .u8 k8, .int .u8 k9, .int .u8 k10, .int .u8 k11, .int .u8 k12, .int .u8 k13, .int .u8 k14, .int .u8 k15, .int .i64 0, .int .i64 0, .int .u8 0, .int .u8 0, .int .u8 0, .int .u8 0, .int .u8 0, .int .u8 0, .int .u8 0, .int .u8 0, .int .u8 0, .int .u8 0, .int .u8 0, .int .u8 0, .int .u8 0, .int .u8 0, .int .u8 0, .int .u8 0] 26)).alloc (.cells #[.iface 24 (.pointer (some ⟨V.heap.size, 0, none⟩)), .nilIface] 31)) := ((Below.refl _ _).alloc (Nat.le_refl _) _).alloc (by simp) _
    exact (b.cell (World.block_lt_of_cell? V _ e)).trans e
  conv => arg 2; whnf
  go_upto_if 48 with (first | (refine wpList_load_mid rfl 22 _ rfl yb 0 rfl [.int .u8 k0, .int .u8 k1, .int .u8 k2, .int .u8 k3, .int .u8 k4, .int .u8 k5, .int .u8 k6, .int .u8 k7, .int .u8 k8, .int .u8 k9, .int .u8 k10, .int .u8 k11, .int .u8 k12, .int .u8 k13, .int .u8 k14, .int .u8 k15] _ (by exact H.out.2.2.1) Ybad.underlying22 rfl info22 ?_))
  go_cut [20] (fun s20 wx => ∃ pv pb, s20 = .pointer pv ∧ St w wx withPrev yb ab V.heap.size (V.heap.size + 1) pb pv z [y0, y1, y2, y3, y4, y5, y6, y7, y8, y9, y10, y11, y12, y13, y14, y15] [k0, k1, k2, k3, k4, k5, k6, k7, k8, k9, k10, k11, k12, k13, k14, k15] (fun i => (newCur k0 k1 k2 k3 k4 k5 k6 k7 k8 k9 k10 k11 k12 k13 k14 k15).toList.getD i undef))
  case first =>
    cases withPrev with
    | true =>
      go_wp2_with (first | (refine wpList_load_mid rfl 22 _ rfl eb 0 rfl [.int .u8 e0, .int .u8 e1, .int .u8 e2, .int .u8 e3, .int .u8 e4, .int .u8 e5, .int .u8 e6, .int .u8 e7, .int .u8 e8, .int .u8 e9, .int .u8 e10, .int .u8 e11, .int .u8 e12, .int .u8 e13, .int .u8 e14, .int .u8 e15] _ (by exact R1.out) Ybad.underlying22 rfl info22 ?_))
      go_meet
      case rel =>
        refine ⟨some ⟨V.heap.size + 1 + 1, 0, none⟩, V.heap.size + 1 + 1, rfl, ?_⟩
        refine St.make (x := .iface 24 (.pointer (some ⟨V.heap.size + 1 + 1, 0, none⟩))) H.out.1 H.out.2.1 h3 H.out.2.2.1 H.out.2.2.2.2.1 rfl H.out.2.2.2.2.2 ((((Below.refl _ _).alloc (Nat.le_refl _) _).alloc (by simp) _).alloc (by simp; omega) _) (by simp) ?_ ?_ ?_ (by omega)
        · rw [Below.heap_alloc _ _ _ (by simp; omega), Below.heap_alloc _ _ _ (by simp)]; exact heap_new _ _
        · rw [Below.heap_alloc _ _ _ (by simp)]; exact heap_new' _ _ _ (by simp)
        · unfold PrevAt
          rw [if_pos rfl]
          refine ⟨rfl, ?_, ?_, ?_⟩
          · rw [World.cell?_alloc_past _ _ _ (by simp), World.cell?_alloc_at _ _ _ _ (by simp)]; rfl
          · rw [World.cell?_alloc_at _ _ _ _ (by simp)]; rfl
          · rw [World.cell?_alloc_at _ _ _ _ (by simp)]; rfl
    | false =>
      go_wp2_with fail
      go_meet
      case rel =>
        refine ⟨none, V.heap.size + 5, rfl, ?_⟩
        refine St.make (x := .nilIface) H.out.1 H.out.2.1 h3 H.out.2.2.1 H.out.2.2.2.2.1 rfl H.out.2.2.2.2.2 (((Below.refl _ _).alloc (Nat.le_refl _) _).alloc (by simp) _) (by simp) ?_ ?_ ?_ (by omega)
        · rw [Below.heap_alloc _ _ _ (by simp)]; exact heap_new _ _
        · exact heap_new' _ _ _ (by simp)
        · unfold PrevAt
          simp only [if_false, Bool.false_eq_true]
          rw [World.cell?_alloc_at _ _ _ _ (by simp)]; rfl
  case rest =>
    obtain ⟨pv, pb, rfl, hst⟩ := hcut
    refine ‹∀ (a : Act) (w : World), Code.wp _ _ _ a w → _› _ _ ?_
    cases hl : isLL y0 y1 y2 y3 y4 y5 y6 y7 with
    | false => exact mid_no join port joins withPrev yb ab V.heap.size (V.heap.size + 1) pb pv z y0 y1 y2 y3 y4 y5 y6 y7 y8 y9 y10 y11 y12 y13 y14 y15 [k0, k1, k2, k3, k4, k5, k6, k7, k8, k9, k10, k11, k12, k13, k14, k15] _ w wc _ _ _ _ _ _ _ _ _ _ _ _ _ _ _ _ _ _ _ _ _ _ _ _ _ _ _ _ _ _ _ _ _ _ _ _ _ _ _ _ _ _ _ _ _ _ _ _ _ _ _ _ _ _ _ _ _ _ _ _ _ _ _ _ _ _ _ _ _ _ _ _ _ _ _ _ _ _ _ _ _ _ _ _ _ _ _ _ _ _ _ _ _ _ _ _ _ _ _ _ _ _ _ _ _ _ _ _ _ _ _ _ _ _ _ _ _ _ _ _ _ _ _ _ _ _ _ _ _ _ _ _ _ _ _ _ _ _ _ _ _ _ _ _ _ _ _ _ _ _ _ _ _ _ _ _ _ _ _ _ _ _ _ _ _ _ _ _ _ _ _ _ _ _ _ _ _ _ _ _ _ _ _ _ _ _ _ _ _ _ _ _ _ _ _ _ _ _ _ _ _ _ _ _ _ _ _ _ _ _ _ _ _ _ _ _ _ _ hy0 hy1 hy2 hy3 hy4 hy5 hy6 hy7 hy8 hy9 hy10 hy11 hy12 hy13 hy14 hy15 hst hl
    | true =>
      simp [isLL] at hl
      obtain ⟨rfl, rfl, rfl, rfl, rfl, rfl, rfl, rfl⟩ := hl
      exact mid_ll join port joins withPrev yb ab V.heap.size (V.heap.size + 1) pb pv z y8 y9 y10 y11 y12 y13 y14 y15 [k0, k1, k2, k3, k4, k5, k6, k7, k8, k9, k10, k11, k12, k13, k14, k15] _ w wc _ _ _ _ _ _ _ _ _ _ _ _ _ _ _ _ _ _ _ _ _ _ _ _ _ _ _ _ _ _ _ _ _ _ _ _ _ _ _ _ _ _ _ _ _ _ _ _ _ _ _ _ _ _ _ _ _ _ _ _ _ _ _ _ _ _ _ _ _ _ _ _ _ _ _ _ _ _ _ _ _ _ _ _ _ _ _ _ _ _ _ _ _ _ _ _ _ _ _ _ _ _ _ _ _ _ _ _ _ _ _ _ _ _ _ _ _ _ _ _ _ _ _ _ _ _ _ _ _ _ _ _ _ _ _ _ _ _ _ _ _ _ _ _ _ _ _ _ _ _ _ _ _ _ _ _ _ _ _ _ _ _ _ _ _ _ _ _ _ _ _ _ _ _ _ _ _ _ _ _ _ _ _ _ _ _ _ _ _ _ _ _ _ _ _ _ _ _ _ _ _ _ _ _ _ _ _ _ _ _ _ _ _ _ _ _ _ _ hy8 hy9 hy10 hy11 hy12 hy13 hy14 hy15 hst hp0 hp1 (allB16 hk0 hk1 hk2 hk3 hk4 hk5 hk6 hk7 hk8 hk9 hk10 hk11 hk12 hk13 hk14 hk15)
end Go.Proofs.YbulkedcqDoor
