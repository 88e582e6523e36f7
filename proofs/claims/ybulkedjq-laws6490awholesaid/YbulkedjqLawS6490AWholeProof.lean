/-
  The proof of 'Rows.LawS6490AWholeSaid': the frame; the walk is law_in and law_out (YbulkedjqT1a).
-/
import Derived.Test.YbulkedjqRows
import Derived.Test.YbulkedjqT1a
import Derived.WalkKit
import Derived.ProofKit
import Derived.OpenShut
import Derived.ChangeOld
import Derived.Below
namespace Go.Proofs.Ybulkedjq.lawS6490AWhole
open Go.ChangeShapes Go.WideShapes Go.ChangeAt Go.RowKit

theorem own : ownKnob Yba.prog.godebug = none := by kernel_rfl
theorem laidOut : laidOutB Yba.prog = true := by kernel_rfl
theorem cells27 : Yba.prog.cellsOf 27 = 3 := by kernel_rfl
theorem cells4 : Yba.prog.cellsOf 4 = 1 := by kernel_rfl
theorem fields27 : (Yba.prog.fieldsOf 27).toList.map (fun f => (f.type, f.offset)) = [(2, 0), (2, 1), (4, 2)] := by kernel_rfl
theorem struct27 : Yba.prog.underlying 27 = some (.struct (Yba.prog.fieldsOf 27)) := by kernel_rfl

def cellInt : Option Value → Int
  | some (.int _ z) => z
  | _ => 0
def cellBool : Option Value → Bool
  | some (.bool b) => b
  | _ => false

theorem list3 {l : List Value} (h : l.length = 3) : ∃ a b c, l = [a, b, c] := by
  match l, h with
  | [a, b, c], _ => exact ⟨a, b, c, rfl⟩

/-- One span, opened. -/
theorem open_span {H : Type} {enc : TypeId × Value → H} {w : World} {base : Nat} {sp : Nat → Bool} {held : Bool} {fuel : Nat} {cs : List Value} {x : DataW H × List MemPlace} (h : DataW.trod enc Yba.prog w base sp held fuel 27 cs = some x) :
    ∃ (s e : Int) (b : Bool), cs = [.int .i64 s, .int .i64 e, .bool b] := by
  obtain ⟨xs, m, _, _, hlen, hxl, hf⟩ := DataW.trod_struct struct27 h
  rw [cells27] at hlen
  have hk : ∀ (i t o : Nat), ((Yba.prog.fieldsOf 27).toList.map (fun f => (f.type, f.offset)))[i]? = some (t, o) → ∃ y, DataW.trod enc Yba.prog w base sp held m t ((cs.drop o).take (Yba.prog.cellsOf t)) = some y := by
    intro i t o hi
    rw [List.getElem?_map] at hi
    obtain ⟨f, hf1, hf2⟩ := Option.map_eq_some_iff.1 hi
    have hfi : (Yba.prog.fieldsOf 27)[i]? = some f := by simpa using hf1
    have g := hf i f hfi
    simp only [Prod.mk.injEq] at hf2
    obtain ⟨e1, e2⟩ := hf2
    rw [e1, e2] at g
    have hi2 : i < xs.length := by
      have := (Array.getElem?_eq_some_iff.1 hfi).1
      omega
    exact ⟨xs[i], by rw [g, List.getElem?_eq_getElem hi2]⟩
  rw [fields27] at hk
  obtain ⟨v0, v1, v2, rfl⟩ := list3 hlen
  obtain ⟨y0, g0⟩ := hk 0 2 0 rfl
  obtain ⟨y1, g1⟩ := hk 1 2 1 rfl
  obtain ⟨y2, g2⟩ := hk 2 4 2 rfl
  rw [cells2] at g0 g1
  rw [cells4] at g2
  obtain ⟨s, e0, _⟩ := DataW.trod_int Yba.underlying2 g0
  obtain ⟨e, e1, _⟩ := DataW.trod_int Yba.underlying2 g1
  obtain ⟨b, e2, _⟩ := DataW.trod_bool Yba.underlying4 g2
  simp at e0 e1 e2
  exact ⟨s, e, b, by rw [e0, e1, e2]⟩

theorem open_spans {H : Type} {enc : TypeId × Value → H} {w : World} {base : Nat} {sp : Nat → Bool} {held : Bool} {fuel : Nat} {a : Option Addr} {n cp : Nat} {x : DataW H × List MemPlace} (h : DataW.trod enc Yba.prog w base sp held fuel 22 [.slice a n cp] = some x) :
    n ≤ 9223372036854775807 ∧ ∃ S E F, Spn w a n S E F := by
  rcases DataW.trod_slice Yba.underlying22 h with ⟨hcs, _⟩ | ⟨ad, len, cap, elems, rest, m, _, hcs, _, _, hl, hm, hel, hc, _, _⟩
  · simp at hcs
    obtain ⟨rfl, rfl, rfl⟩ := hcs
    exact ⟨by omega, fun _ => 0, fun _ => 0, fun _ => false, Or.inl rfl⟩
  · simp at hcs
    obtain ⟨rfl, rfl, rfl⟩ := hcs
    have hm' : cp ≤ 9223372036854775807 := hm
    refine ⟨by omega, ?_⟩
    have key : ∀ i, i < n → ∃ (s e : Int) (b : Bool), w.cell? (ad.add (i * 3)) = some (.int .i64 s) ∧ w.cell? ((ad.add (i * 3)).add 1) = some (.int .i64 e) ∧ w.cell? ((ad.add (i * 3)).add 2) = some (.bool b) := by
      intro i hi
      have g := hc i hi
      rw [cells27, List.getElem?_eq_getElem (by omega)] at g
      obtain ⟨cs, g1, g2⟩ := Option.bind_eq_some_iff.1 g
      obtain ⟨s, e, b, rfl⟩ := open_span g2
      obtain ⟨_, _, hcell⟩ := World.cells?_some g1
      have c0 := hcell 0 (by omega)
      have c1 := hcell 1 (by omega)
      have c2 := hcell 2 (by omega)
      exact ⟨s, e, b, by simpa [Addr.add] using c0, by simpa using c1, by simpa using c2⟩
    rcases Nat.eq_zero_or_pos n with h0 | h0
    · exact ⟨fun _ => 0, fun _ => 0, fun _ => false, Or.inl h0⟩
    · obtain ⟨ab, ao, spot⟩ := ad
      have hspot : spot = none := by
        obtain ⟨s, _, _, c0, _⟩ := key 0 h0
        simpa [Addr.add] using World.cell?_spot c0
      subst hspot
      refine ⟨fun i => cellInt (w.cell? ⟨ab, ao + i * 3, none⟩), fun i => cellInt (w.cell? ⟨ab, ao + i * 3 + 1, none⟩), fun i => cellBool (w.cell? ⟨ab, ao + i * 3 + 2, none⟩), Or.inr ⟨ab, ao, rfl, fun i hi => ?_⟩⟩
      obtain ⟨s, e, b, c0, c1, c2⟩ := key i hi
      rw [add_plain] at c0 c1 c2
      rw [add_plain] at c1 c2
      exact ⟨by dsimp only; rw [c0]; rfl, by dsimp only; rw [c1]; rfl, by dsimp only; rw [c2]; rfl⟩

theorem walk (all : Bool) (now due sel : Int) (a : Option Addr) (n cp : Nat) (S E : Nat → Int) (F : Nat → Bool) (w : World) (wn : (Lit.int .i64 now).wf = true) (ws : (Lit.int .u8 sel).wf = true) (hm : n ≤ 9223372036854775807) (hsp : Spn w a n S E F) :
    Calls Yba.prog 3 #[.bool all, .int .i64 now, .int .i64 due, .int .u8 sel, .slice a n cp] w fun e w' => e = .returned (.bool true) ∧ Below w.heap.size w w' := by
  have h1 := bounds_i64 wn
  have h2 := bounds_u8 ws
  by_cases hn : n ≤ 4096
  · exact law_in all now due sel a cp n S E F w hn (by omega) (by omega) (by omega) (by omega) hsp
  · exact law_out all now due sel a cp n w (by omega) hm

set_option maxRecDepth 100000 in
theorem lifted (os : Os) (started : os.Started) (H : Type) (enc : TypeId × Value → H) :
    ReturnsInHanded {} Yba.checked os 3 .any (Rows.lawS6490AWholeSpec.pre6 enc Yba.prog Yba.f3 Rows.lawS6490AWholeRow.domain false) (Rows.lawS6490AWholeSpec.post enc Yba.prog Yba.f3 false true false false) := by
  refine returnsInHanded_of_change (C := Yba.checked) own started (by kernel_rfl) Yba.func3
    (ChangeSpec.witness6 (enc := enc) (C := Yba.checked) false ⟨#[], #[.bool false, .int .i64 0, .int .i64 0, .int .u8 0, .slice none 0 0], []⟩ 8 (by kernel_rfl) (by kernel_rfl) (by kernel_rfl) (by kernel_rfl)) ?_
  intro W base args ds gs before hval0 hW hcnd _
  have hval : ∀ (j : Nat) t v, Yba.f3.params[j]? = some t → args[j]? = some v → Value.okWide Yba.prog W .any base t v := hval0
  have hW' := hW
  obtain ⟨p, q, hA0, hV, rfl, hfz, hnd⟩ := hW
  have hA : DataW.TrodAll enc Yba.prog W 0 (fun _ => true) true Yba.f3.params.toList args.toList ds p := hA0
  rw [Yba.params3] at hA hval
  obtain ⟨v0, vs0, d0, ds0, p0, q0, hargs, rfl, rfl, h0, r0⟩ := trodAll_cons hA
  obtain ⟨v1, vs1, d1, ds1, p1, q1, rfl, rfl, rfl, h1, r1⟩ := trodAll_cons r0
  obtain ⟨v2, vs2, d2, ds2, p2, q2, rfl, rfl, rfl, h2, r2⟩ := trodAll_cons r1
  obtain ⟨v3, vs3, d3, ds3, p3, q3, rfl, rfl, rfl, h3, r3⟩ := trodAll_cons r2
  obtain ⟨v4, vs4, d4, ds4, p4, q4, rfl, rfl, rfl, h4, r4⟩ := trodAll_cons r3
  obtain ⟨rfl, rfl, rfl⟩ := trodAll_nil r4
  obtain rfl : args = #[v0, v1, v2, v3, v4] := by cases args; simp_all
  obtain ⟨rfl, rfl⟩ := trodVars_none hV
  have k4 := h4
  have lt4 : ∀ x ∈ p4, x.block < W.heap.size := by obtain ⟨m, hm⟩ := k4; exact DataW.trod_lt m _ _ _ hm
  obtain ⟨all, rfl, rfl, rfl⟩ := open_bool Yba.underlying4 (hval 0 4 v0 rfl rfl) h0
  obtain ⟨now, rfl, rfl, rfl, wn⟩ := open_int Yba.underlying2 (hval 1 2 v1 rfl rfl) h1
  obtain ⟨due, rfl, rfl, rfl, wd⟩ := open_int Yba.underlying2 (hval 2 2 v2 rfl rfl) h2
  obtain ⟨sel, rfl, rfl, rfl, ws⟩ := open_int Yba.underlying5 (hval 3 5 v3 rfl rfl) h3
  obtain ⟨a, n, cp, rfl⟩ := okWide_slice Yba.underlying22 (hval 4 22 v4 rfl rfl)
  obtain ⟨hm, S, E, F, hsp⟩ : n ≤ 9223372036854775807 ∧ ∃ S E F, Spn W a n S E F := by
    obtain ⟨fuel, hf⟩ := h4
    exact open_spans hf
  clear hA0 hval0
  refine (walk all now due sel a n cp S E F W wn ws hm hsp).mono fun e W' ⟨he, bel⟩ => ?_
  subst he
  exact ⟨_, rfl, _, _, _, [], _, [], hW', trodAll_mk1 (shut_bool Yba.underlying4 _), (trodAll_cons_mk (shut_bool Yba.underlying4 _) (trodAll_cons_mk (shut_int Yba.underlying2 wn) (trodAll_cons_mk (shut_int Yba.underlying2 wd) (trodAll_cons_mk (shut_int Yba.underlying5 ws) (trodAll_cons_mk (Below.trod laidOut (by kernel_rfl) (of_decide_eq_true (by kernel_rfl)) k4 bel lt4) trodAll_mk0))))), rfl, bel.frame _, fun h => by cases h⟩

theorem over : Rows.lawS6490AWholeRow.holds Yba.pinned (OpenSpec.ofChange Rows.lawS6490AWholeSpec) :=
  OpenClaim.holds_of_wide 3 Yba.f3 rfl rfl rfl rfl rfl rfl rfl ⟨rfl, rfl, rfl, rfl, rfl⟩ rfl rfl rfl rfl rfl (by kernel_rfl) Yba.func3 (by kernel_rfl)
    (of_decide_eq_true (by kernel_rfl)) (by unfold Func.isWrapper; first | (rw [if_pos (by decide +kernel)]; kernel_rfl) | (rw [if_neg (by decide +kernel)]; exact ⟨rfl, rfl⟩))
    (fun os started H enc _ => lifted os started H enc)

theorem proved : Rows.LawS6490AWholeSaid := over
end Go.Proofs.Ybulkedjq.lawS6490AWhole
