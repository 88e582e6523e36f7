import Derived.Test.YbulkedjqClose
namespace Go.Proofs.Ybulkedjq
open Go.RowKit

theorem close_early (hb : Nat) (now due : Int) (w : World) (hlt : now < due) (c7 : w.cell? ⟨hb, 7, none⟩ = some (.int .i64 now)) (c13 : w.cell? ⟨hb, 13, none⟩ = some (.int .i64 due)) :
    Calls Yba.prog 4 #[.pointer (some ⟨hb, 0, none⟩), .bool false] w fun e w' => e = .returned (.slice none 0 0) ∧ ∃ q, w' = w.drewN q := by
  go_enter Yba.func4, Yba.ntmps4
  go_wp2
  go_quiet (fail)
  go_wp2
  go_ret
  exact ⟨rfl, _, rfl⟩

theorem info25 : (Yba.prog.info? 25).map (fun i => (i.zero, i.size, i.bytes)) = some (some (.pointer none), 1, 8) := by kernel_rfl

set_option maxHeartbeats 3200000 in
set_option maxRecDepth 100000 in
theorem close_main (hb ob pb n : Nat) (all : Bool) (now due fin : Int) (S E : Nat → Int) (F : Nat → Bool) (H R : Array Value) (w : World) (hcond : all = true ∨ (all = false ∧ due ≤ now)) (hn : n ≤ 4096) (hd : 0 < fin) (hd2 : fin ≤ 3600000) (hn1 : -9223372036854775808 ≤ now) (hn2 : now ≤ 9223372036854775807)
    (A : Apart hb ob pb n w.heap.size) (bH : Blk w hb 37 H) (hs : H.size = 14) (h0 : H[0]? = some (.int .i64 fin)) (h7 : H[7]? = some (.int .i64 now)) (h12 : H[12]? = some (.slice (some ⟨ob, 0, none⟩) n n)) (h13 : H[13]? = some (.int .i64 due))
    (bR : Blk w ob 25 R) (hRs : R.size = n) (hR : ∀ p, p < n → R[p]? = some (ptr (pb + p))) (bS : ∀ i, i < n → Blk w (pb + i) 30 #[.int .i64 (S i), .int .i64 (E i), .pointer none, .bool (F i)]) :
    Calls Yba.prog 4 #[.pointer (some ⟨hb, 0, none⟩), .bool all] w fun e w' => ∃ v, e = .returned v ∧ CPost w hb ob pb n S E F (fun i => all || decide (E i ≤ now)) ((H.setIfInBounds 13 (.int .i64 (dueW now fin))).setIfInBounds 12 (.slice (some ⟨ob, 0, none⟩) (Kp (fun i => all || decide (E i ≤ now)) n).length n)) v w' := by
  obtain ⟨D, hD⟩ : ∃ D, dueW now fin = D := ⟨_, rfl⟩
  rw [hD]
  have HD := Hid.mk' hD
  obtain ⟨f, hfe⟩ : ∃ f : Nat → Bool, (fun i => all || decide (E i ≤ now)) = f := ⟨_, rfl⟩
  rw [hfe]
  have Hf : Hid (∀ i, f i = (all || decide (E i ≤ now))) := fun i => by rw [← hfe]
  clear hD hfe
  obtain ⟨i25, hi, hz0, hz1, hz2⟩ := info_parts info25
  have HBH := Hid.mk' bH
  have HBR := Hid.mk' bR
  have HBS := Hid.mk' bS
  have HA := Hid.mk' A
  have HR := Hid.mk' hR
  have HRS := Hid.mk' hRs
  have H0 := Hid.mk' h0
  have H7 := Hid.mk' h7
  have H12 := Hid.mk' h12
  have H13 := Hid.mk' h13
  have HS := Hid.mk' hs
  have c7 : w.cell? ⟨hb, 7, none⟩ = some (.int .i64 now) := (bH.cell 7).trans h7
  have c13 : w.cell? ⟨hb, 13, none⟩ = some (.int .i64 due) := (bH.cell 13).trans h13
  clear bH bR bS A hR hRs h0 h7 h12 h13 hs
  go_enter Yba.func4, Yba.ntmps4
  go_wp2
  go_cut [21] from 22 (fun s21 wx => s21 = .bool false ∧ ∃ q, wx = w.drewN q)
  case first =>
    rcases hcond with rfl | ⟨rfl, hle⟩
    · go_quiet (fail)
      go_wp2_with fail
      go_meet
      case rel => exact ⟨rfl, _, rfl⟩
    · go_quiet (fail)
      go_wp2_with fail
      go_meet
      case rel => exact ⟨congrArg Value.bool (decide_eq_false (by omega)), _, rfl⟩
  case rest =>
    obtain ⟨rfl, q, rfl⟩ := hcut
    have c0 : (w.drewN q).cell? ⟨hb, 0, none⟩ = some (.int .i64 fin) := (HBH.out.cell 0).trans H0.out
    have c7' : (w.drewN q).cell? ⟨hb, 7, none⟩ = some (.int .i64 now) := (HBH.out.cell 7).trans H7.out
    have c13' : (w.drewN q).cell? ⟨hb, 13, none⟩ = some (.int .i64 due) := (HBH.out.cell 13).trans H13.out
    have c12 : ((w.drewN q).setCell ⟨hb, 13, none⟩ (.int .i64 (dueW now fin))).cell? ⟨hb, 12, none⟩ = some (.slice (some ⟨ob, 0, none⟩) n n) := by
      rw [((HBH.out.drewN q).set 13 _).cell 12, Array.getElem?_setIfInBounds_ne (by omega), H12.out]
    have f13 : (w.drewN q).frozen? ⟨hb, 13, none⟩ = false := HBH.out.frozen 13
    have hdue := due_any hb now fin (w.drewN q) hd hd2 hn1 hn2 c0 c7'
    clear c0 c7 c13
    rw [HD.out] at hdue c12
    have bH3 := Hid.mk' ((HBH.out.drewN q).set 13 (.int .i64 D))
    have K3 : Hid (Keep (Tch hb ob pb n) w ((w.drewN q).setCell ⟨hb, 13, none⟩ (.int .i64 D))) := ((Keep.refl _ w).drewN q).then (Keep.set _ hb 13 _) fun i _ e => Or.inl e
    have a4 := HA.out.hp; have a5 := HA.out.op; have a6 := HA.out.ho
    have bR3 := Hid.mk' ((Keep.set (w.drewN q) hb 13 (.int .i64 D)).blk (HBR.out.drewN q) (by omega))
    have bS3 := Hid.mk' (fun (i : Nat) (hi : i < n) => (Keep.set (w.drewN q) hb 13 (.int .i64 D)).blk ((HBS.out i hi).drewN q) (by omega))
    have N3 : Hid (((w.drewN q).setCell ⟨hb, 13, none⟩ (.int .i64 D)).heap.size = w.heap.size) := by unfold Hid; simp [World.drewN]
    clear a4 a5 a6
    go_wp2_with (go_at_call 5; with_reducible refine hdue.mono ?_; rintro e w' ⟨rfl, hw'⟩; subst w'; dsimp only)
    clear c7' c13' c12 f13 hdue
    have hH7 : Hid ((H.setIfInBounds 13 (.int .i64 D))[7]? = some (.int .i64 now)) := by unfold Hid; rw [Array.getElem?_setIfInBounds_ne (by omega), H7.out]
    have hH12 : Hid ((H.setIfInBounds 13 (.int .i64 D))[12]? = some (.slice (some ⟨ob, 0, none⟩) n n)) := by unfold Hid; rw [Array.getElem?_setIfInBounds_ne (by omega), H12.out]
    generalize (w.drewN q).setCell ⟨hb, 13, none⟩ (.int .i64 D) = w3 at *
    obtain ⟨H3, hH3⟩ : ∃ H3, H.setIfInBounds 13 (.int .i64 D) = H3 := ⟨_, rfl⟩
    rw [hH3] at hH7 hH12 bH3
    have HH3 := Hid.mk' hH3
    clear hH3
    have HA3 : Hid (Apart hb ob pb n w3.heap.size) := by unfold Hid; rw [N3.out]; exact HA.out
    go_loopw [5, 6, 37] (fun v5 v6 i wr => ∃ m : Nat, m ≤ n ∧ i = .int .i64 m ∧ v6 = .slice (some ⟨ob, 0, none⟩) (Kp f m).length n ∧ CInv w3 hb ob pb n S E F f H3 m v5 wr) (fun _ _ i _ => n - (intOf i).toNat)
    case atStart =>
      exact ⟨0, by omega, rfl, rfl, World.ownsRow_nil _ _ _ _, by simp [Cl_zero], ⟨R, bR3.out, HRS.out, fun p hp => absurd hp (by simp [Kp_zero]), fun p _ hp => HR.out p hp⟩, fun i hi => by simpa using bS3.out i hi, bH3.out, Keep.refl _ _⟩
    case round =>
      obtain ⟨m, hm, rfl, rfl, hI⟩ := hrel
      have HI := Hid.mk' hI
      by_cases hlt : m < n
      · obtain ⟨Rr, hRr, hRs, hR1, hR2⟩ := hI.row
        have e1 : wr.cell? ⟨ob, m, none⟩ = some (.pointer (some ⟨pb + m, 0, none⟩)) := (hRr.cell m).trans (hR2 m (by have := Cl_Kp f m; omega) hlt)
        have e2 : wr.cell? ⟨pb + m, 1, none⟩ = some (.int .i64 (E m)) := (hI.sl m hlt).cell 1
        have e3 : wr.cell? ⟨hb, 7, none⟩ = some (.int .i64 now) := (hI.hbk.cell 7).trans hH7.out
        have e4 : wr.cell? ⟨pb + m, 3, none⟩ = some (.bool (if m < m ∧ f m = true then false else F m)) := (hI.sl m hlt).cell 3
        have e5 : wr.frozen? ⟨pb + m, 3, none⟩ = false := (hI.sl m hlt).frozen 3
        generalize (if m < m ∧ f m = true then false else F m) = b4 at e4
        clear hRr hRs hR1 hR2 hI
        have b1 : (0 : Int) ≤ (m : Int) := by omega
        have b2 : (m : Int) < (n : Int) := by omega
        by_cases hfm : f m = true
        · have HFM := Hid.mk' hfm
          have hall : all = true ∨ (all = false ∧ E m ≤ now) := by
            have := Hf.out m
            rw [hfm] at this
            cases all
            · exact Or.inr ⟨rfl, by simpa using this.symm⟩
            · exact Or.inl rfl
          clear hfm
          have HLM : Hid ((Cl f m).length ≤ 4096) := by have := Cl_Kp f m; unfold Hid; omega
          rcases hall with rfl | ⟨rfl, hle⟩
          all_goals
            go_wp2
            go_quiet (fail)
            go_wp2_with (at_builtin; refine wpList_append_own _ rfl (.tmp 56) (.tmp 58) 24 rfl w3.heap.size 25 i25 (.pointer none) 1 8 Yba.underlying24 hi hz0 hz1 hz2 rfl (by decide) u5 (Cl f m).length ((Cl f m).map fun i => ptr (pb + i)) rfl (by exact (HI.out.drewN _).own1 HA3.out hlt _) ⟨wr.heap.size, 0, none⟩ 1 1 [ptr (pb + m)] rfl rfl (cells_one _ _ _ _ (by simp)) (one_oneCell _) (by have := HLM.out; unfold maxLen; omega) (by have := HLM.out; omega) (by have := HI.out.keep.size; simp; omega) ?_; intro v' w' hown hgrow hnil)
            go_roundw
            case rel => exact ⟨m + 1, by omega, by go_num, by rw [Kp_t HFM.out], (HI.out.drewN _).closed HA3.out hlt HFM.out _ hown hgrow (fun h => absurd (hnil.1 h).2 (by decide))⟩
            case measure => simp [intOf]; omega
        · have hfm' : f m = false := by simpa using hfm
          have HFM := Hid.mk' hfm'
          obtain ⟨rfl, hgt⟩ : all = false ∧ now < E m := by
            have := Hf.out m
            rw [hfm'] at this
            cases all
            · exact ⟨rfl, by simpa using this.symm⟩
            · simp at this
          clear hfm hfm'
          have HLK : Hid ((Kp f m).length ≤ m) := by have := Cl_Kp f m; unfold Hid; omega
          obtain ⟨Rr, hRr, hRs, -, hR2⟩ := HI.out.row
          have e6 : Hid (wr.cell? ⟨ob, (Kp f m).length, none⟩ = some (ptr (pb + (Kp f m).length))) := (hRr.cell _).trans (hR2 _ (Nat.le_refl _) (by have := HLK.out; omega))
          have e7 : Hid (wr.frozen? ⟨ob, (Kp f m).length, none⟩ = false) := hRr.frozen _
          have e8 : Hid (∀ q o, (((wr.drewN q).alloc o).cell? ⟨ob, 0 + (Kp f m).length, none⟩).isSome = true) := fun q o => by
            rw [Nat.zero_add, (Keep.alloc (wr.drewN q) o).cell e6.out id]; rfl
          have e9 : Hid (∀ q o, ((wr.drewN q).alloc o).frozen? ⟨ob, 0 + (Kp f m).length, none⟩ = false) := fun q o => by
            rw [Nat.zero_add]; exact ((Keep.alloc (wr.drewN q) o).blk (hRr.drewN q) id).frozen _
          have e10 : Hid (∀ q, ((wr.drewN q).alloc (.cells #[.pointer (some ⟨pb + m, 0, none⟩)] 25)).cell? ⟨wr.heap.size, 0, none⟩ = some (ptr (pb + m))) := fun q => (Blk.new (wr.drewN q) 25 _).cell 0
          clear hRr hRs hR2
          go_wp2
          go_quiet (fail)
          go_wp2_with (at_builtin; refine wpList_append_room1 _ rfl (.tmp 60) (.tmp 62) 24 rfl 25 i25 Yba.underlying24 hi hz1 ob 0 (Kp f m).length n rfl ⟨wr.heap.size, 0, none⟩ 1 (ptr (pb + m)) rfl (by exact e10.out _) rfl (by have := HLK.out; omega) (by exact e8.out _ _) (by exact e9.out _ _) ?_)
          go_roundw
          case rel => exact ⟨m + 1, by omega, by go_num, by rw [Kp_f HFM.out]; simp, (HI.out.drewN _).kept HA3.out hlt HFM.out _⟩
          case measure => simp [intOf]; omega
      · obtain rfl : m = n := by omega
        have HLK : Hid ((Cl f m).length + (Kp f m).length = m) := Cl_Kp f m
        have e1 : wr.cell? ⟨hb, 12, none⟩ = some (.slice (some ⟨ob, 0, none⟩) m m) := (hI.hbk.cell 12).trans hH12.out
        have b1 : (Kp f m).length ≤ m := by have := HLK.out; omega
        clear hI hlt
        obtain ⟨Rr, hRr, hRs, hR1, -⟩ := HI.out.row
        obtain ⟨wd, R', hc1, hc2, hR', hRs', hr1, hr2, hKd⟩ := clear_row wr ob m (Kp f m).length Rr hRr hRs b1
        have HCS := fun u => Hid.mk' (HI.out.done HA3.out K3.out hR' hKd u)
        have HR1 : Hid (∀ p, p < (Kp f m).length → R'[p]? = some (ptr (pb + (Kp f m).getD p 0))) := fun p hp => (hr1 p hp).trans (hR1 p hp)
        have HR2 := Hid.mk' hr2
        have HNIL := Hid.mk' HI.out.nil
        have e2 : wd.cell? ⟨hb, 12, none⟩ = some (.slice (some ⟨ob, 0, none⟩) m m) := hKd.cell e1 (by have := HA.out.ho; exact this)
        have e3 : wd.frozen? ⟨hb, 12, none⟩ = false := (hKd.blk HI.out.hbk (by have := HA.out.ho; exact this)).frozen 12
        clear hRr hRs hR1 hR' hRs' hr1 hr2 hKd
        have HS5 : ∀ k, k = (Kp f m).length → Hid (Calls Yba.prog 6 #[u5, .func (.func 7) #[] #[]] (wd.setCell ⟨hb, 12, none⟩ (.slice (some ⟨ob, 0, none⟩) k m)) fun e w' => e = .returned (.tuple #[]) ∧ CPost w hb ob pb m S E F f (H3.setIfInBounds 12 (.slice (some ⟨ob, 0, none⟩) (Kp f m).length m)) u5 w') := by
          rintro _ rfl
          obtain ⟨x1, x2, x3, x4, x5⟩ := (HCS (.slice (some ⟨ob, 0, none⟩) (Kp f m).length m)).out
          rw [N3.out] at x5
          exact close_sort hn HA.out x1 x2 x3 HR1.out HR2.out x4 x5 HNIL.out
        have HS6 := Hid.mk' HS5
        clear HCS HS5
        by_cases hz : (Kp f m).length = m
        · have hcl := hc1 hz
          have HS7 := HS6.out m hz.symm
          clear hc1 hc2
          go_wp2_with (go_at_call 6; with_reducible refine HS7.out.mono ?_; rintro e w' ⟨rfl, hpost⟩; dsimp only)
          go_ret
          exact ⟨_, rfl, by rw [HH3.out]; exact hpost⟩
        · have hcl := hc2 (by omega)
          have HS7 := HS6.out _ rfl
          clear hc1 hc2
          go_wp2_with (go_at_call 6; with_reducible refine HS7.out.mono ?_; rintro e w' ⟨rfl, hpost⟩; dsimp only)
          go_ret
          exact ⟨_, rfl, by rw [HH3.out]; exact hpost⟩
end Go.Proofs.Ybulkedjq
