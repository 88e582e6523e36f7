import Derived.Test.YbulkedccModel
import Derived.Test.YbulkedccShelf
import Derived.Lib.SlBytesConst
import Derived.Laws.IdiomStrings
namespace Go.Proofs.Ybulkedcc
open Go.RowKit Plain

theorem bytesOf_inj_prefix (ys xs : List Int) (hy : ∀ v ∈ ys, 0 ≤ v ∧ v < 256) (hx : ∀ v ∈ xs, 0 ≤ v ∧ v < 256) : (Lib.bytesOf ys).isPrefixOf (Lib.bytesOf xs) = ys.isPrefixOf xs := by
  induction ys generalizing xs with
  | nil => simp [Lib.bytesOf]
  | cons y ys ih =>
    cases xs with
    | nil => simp [Lib.bytesOf]
    | cons x xs =>
      have h1 := hy y (by simp)
      have h2 := hx x (by simp)
      have e : (UInt8.ofNat y.toNat == UInt8.ofNat x.toNat) = (y == x) := by
        rw [Bool.eq_iff_iff]
        simp only [beq_iff_eq]
        constructor
        · intro h
          have := congrArg UInt8.toNat h
          simp [UInt8.toNat_ofNat'] at this
          omega
        · intro h; rw [h]
      show (UInt8.ofNat y.toNat == UInt8.ofNat x.toNat && (Lib.bytesOf ys).isPrefixOf (Lib.bytesOf xs)) = (y == x && ys.isPrefixOf xs)
      rw [e, ih xs (fun v hv => hy v (by simp [hv])) (fun v hv => hx v (by simp [hv]))]

theorem mem_byte {xs : List Int} (h : ∀ i, 0 ≤ xs.getD i 0 ∧ xs.getD i 0 < 256) : ∀ v ∈ xs, 0 ≤ v ∧ v < 256 := by
  intro v hv
  obtain ⟨i, hi, rfl⟩ := List.getElem_of_mem hv
  have := h i
  simpa [List.getD, hi] using this

theorem nums_byte (l : List UInt8) : ∀ v ∈ nums l, 0 ≤ v ∧ v < 256 := by
  intro v hv
  simp [nums] at hv
  obtain ⟨c, _, rfl⟩ := hv
  have := c.toNat_lt
  omega

/-- 'bytes.HasPrefix(text[k:], []byte(..))'. -/
theorem hp_any (b off n c k g m d : Nat) (xs : List Int) (l : List UInt8) (W : World) (hlen : xs.length = n) (hbyte : ∀ i, 0 ≤ xs.getD i 0 ∧ xs.getD i 0 < 256) (hk : k < n) (hnc : n ≤ c) (hc1 : ∀ i, i < n → W.cell? ⟨b, off + i, none⟩ = some (.int .u8 (xs.getD i 0))) (hm : l.length = m)
    (hc2 : ∀ i, i < m → W.cell? ⟨g, i, none⟩ = some (.int .u8 ((nums l).getD i 0))) :
    Calls Yba.prog 10 #[.slice (some ⟨b, off + k, none⟩) (n - k) (c - k), .slice (some ⟨g, 0, none⟩) m d] W fun e w' => e = .returned (.bool (hasB xs k (bstr l))) ∧ w' = W := by
  refine (Yba.bytes_HasPrefix b (off + k) (n - k) (c - k) g 0 m d (xs.drop k) (nums l) W (by simp; omega) (by simp [nums]; omega) (by omega) (fun i hi => ?_) (fun i hi => ?_)).mono ?_
  · rw [Nat.add_assoc, hc1 (k + i) (by omega)]
    simp [List.getD]
  · rw [Nat.zero_add]; exact hc2 i hi
  · rintro e w' ⟨rfl, rfl⟩
    refine ⟨ret_bool ?_, rfl⟩
    rw [hasB_bstr]
    exact bytesOf_inj_prefix _ _ (nums_byte l) (fun v hv => mem_byte hbyte v (List.mem_of_mem_drop hv))

/-- The same, the second slice in a block that has just been laid. -/
theorem hp_at (b off n c k m : Nat) (xs : List Int) (l : List UInt8) (C : Array Value) (wr : World) (hC : C = ((nums l).map (Value.int .u8)).toArray) (hm : l.length = m) (hlen : xs.length = n) (hbyte : ∀ i, 0 ≤ xs.getD i 0 ∧ xs.getD i 0 < 256) (hk : k < n) (hnc : n ≤ c)
    (hbk : b < wr.heap.size) (hc1 : ∀ i, i < n → wr.cell? ⟨b, off + i, none⟩ = some (.int .u8 (xs.getD i 0))) :
    Calls Yba.prog 10 #[.slice (some ⟨b, off + k, none⟩) (n - k) (c - k), .slice (some ⟨wr.heap.size, 0, none⟩) m m] (wr.alloc (.cells C 5 (m, m + 1))) fun e w' => e = .returned (.bool (hasB xs k (bstr l))) ∧ w' = wr.alloc (.cells C 5 (m, m + 1)) := by
  refine hp_any b off n c k wr.heap.size m m xs l _ hlen hbyte hk hnc (fun i hi => ?_) hm (fun i hi => ?_)
  · exact (((Below.refl wr.heap.size wr).alloc (Nat.le_refl _) _).cell (by exact hbk)).trans (hc1 i hi)
  · rw [World.cell?_alloc_mark, hC]
    have : i < (nums l).length := by simp [nums]; omega
    simp [List.getD, this]

theorem lineOut {xs : List Int} {k : Nat} {s : List UInt8} {w w' : World} (h : First xs k s) (b : Below w.heap.size w w') :
    (∃ k' s', First xs k' s' ∧ Ending.returned (.tuple #[.int .i64 (k : Int), .string (bstr s)]) = .returned (.tuple #[.int .i64 (k' : Nat), .string (bstr s')])) ∧ Below w.heap.size w w' := ⟨⟨k, s, h, rfl⟩, b⟩

set_option maxRecDepth 100000 in
set_option maxHeartbeats 3200000 in
theorem line_any (a : Option Addr) (n c : Nat) (xs : List Int) (w : World) (hb : Bs w a n xs) (hn : n ≤ 2000000000) (hnc : n ≤ c) (_hcc : c ≤ 9223372036854775807) :
    Calls Yba.prog 7 #[.slice a n c] w fun e w' => (∃ k s, First xs k s ∧ e = .returned (.tuple #[.int .i64 (k : Nat), .string (bstr s)])) ∧ Below w.heap.size w w' := by
  obtain ⟨hlen, hbyte, hat⟩ := hb
  have kc := fun (w : World) (C : Array Value) (n c : Nat) => Lib.run_convert_bytes_const (P := Yba.prog) w 22 5 C n c Yba.underlying22 Yba.underlying5
  have HB : Hid (∀ i, 0 ≤ xs.getD i 0 ∧ xs.getD i 0 < 256) := hbyte
  clear hbyte
  go_enter Yba.func7, Yba.ntmps7
  go_wp2
  go_loopw [8] (fun i wr => ∃ k : Nat, k ≤ n ∧ i = .int .i64 k ∧ (∀ j, j < k → bnd (xs.drop j) = none) ∧ Below w.heap.size w wr) (fun i _ => n - (intOf i).toNat)
  case atStart => exact ⟨0, Nat.zero_le _, rfl, fun m h => by omega, Below.refl _ _⟩
  case round =>
    obtain ⟨k, hk, rfl, hall, hbel⟩ := hrel
    have HA : Hid (∀ j, j < k → bnd (xs.drop j) = none) := hall
    clear hall
    by_cases hlt : k < n
    · obtain ⟨bk, off, rfl, hbk, hcell⟩ : ∃ b' off, a = some ⟨b', off, none⟩ ∧ b' < w.heap.size ∧ ∀ i, i < n → w.cell? ⟨b', off + i, none⟩ = some (.int .u8 (xs.getD i 0)) := by
        rcases hat with h | h
        · omega
        · exact h
      clear hat
      have HCW : Hid (∀ i, i < n → wr.cell? ⟨bk, off + i, none⟩ = some (.int .u8 (xs.getD i 0))) := fun i hi => (hbel.cell (by exact hbk)).trans (hcell i hi)
      have HCW0 : Hid (∀ i, i < n → w.cell? ⟨bk, off + i, none⟩ = some (.int .u8 (xs.getD i 0))) := hcell
      clear hcell
      have hsz : w.heap.size ≤ wr.heap.size := hbel.size
      have HBK : Hid (bk < wr.heap.size) := Nat.lt_of_lt_of_le hbk hsz
      have hc := HCW.out k hlt
      have hx := HB.out k
      have HD : Hid (xs.drop k = xs.getD k 0 :: xs.drop (k + 1)) := drop_eq xs k (by omega)
      have HX1 : Hid (∀ v, xs.getD (k + 1) 0 = v → k + 1 < n → (xs.drop (k + 1)).head? = some v) := by
        intro v hv h
        rw [head_drop]
        simp [List.getD] at hv
        rw [List.getElem?_eq_getElem (by omega)] at hv ⊢
        simpa using hv
      generalize xs.getD k 0 = x at *
      by_cases hA : 32 ≤ x ∧ x < 194
      · have HO : Hid (bnd (xs.drop k) = none) := by
          unfold Hid; rw [HD.out]
          exact bnd_other _ _ (by omega) (by omega) (by omega) (by omega) (by omega) (by omega) (by omega) (by omega) (by omega)
        obtain ⟨hA1, hA2⟩ := hA
        go_wp2
        go_roundw
        case rel => exact ⟨k + 1, by omega, by go_num, none_succ HA.out HO.out, hbel⟩
        case measure => simp [intOf]; omega
      · have hA' : x < 32 ∨ 194 ≤ x := by omega
        clear hA
        by_cases h10 : x = 10
        · subst h10
          have HF : Hid (First xs k [10]) := First.hit HA.out (by omega) (by rw [HD.out, bnd_cons]; simp)
          go_wp2
          go_ret2
          exact ⟨⟨k, _, HF.out, ret_two rfl rfl⟩, hbel⟩
        by_cases h11 : x = 11
        · subst h11
          have HF : Hid (First xs k [11]) := First.hit HA.out (by omega) (by rw [HD.out, bnd_cons]; simp)
          go_wp2
          go_ret2
          exact ⟨⟨k, _, HF.out, ret_two rfl rfl⟩, hbel⟩
        by_cases h12 : x = 12
        · subst h12
          have HF : Hid (First xs k [12]) := First.hit HA.out (by omega) (by rw [HD.out, bnd_cons]; simp)
          go_wp2
          go_ret2
          exact ⟨⟨k, _, HF.out, ret_two rfl rfl⟩, hbel⟩
        by_cases h28 : x = 28
        · subst h28
          have HF : Hid (First xs k [28]) := First.hit HA.out (by omega) (by rw [HD.out, bnd_cons]; simp)
          go_wp2
          go_ret2
          exact ⟨⟨k, _, HF.out, ret_two rfl rfl⟩, hbel⟩
        by_cases h29 : x = 29
        · subst h29
          have HF : Hid (First xs k [29]) := First.hit HA.out (by omega) (by rw [HD.out, bnd_cons]; simp)
          go_wp2
          go_ret2
          exact ⟨⟨k, _, HF.out, ret_two rfl rfl⟩, hbel⟩
        by_cases h30 : x = 30
        · subst h30
          have HF : Hid (First xs k [30]) := First.hit HA.out (by omega) (by rw [HD.out, bnd_cons]; simp)
          go_wp2
          go_ret2
          exact ⟨⟨k, _, HF.out, ret_two rfl rfl⟩, hbel⟩
        by_cases h13 : x = 13
        · subst h13
          by_cases hk1 : k + 1 < n
          · have hc1 := HCW.out (k + 1) hk1
            have hx1 := HB.out (k + 1)
            generalize xs.getD (k + 1) 0 = y at *
            by_cases hy : y = 10
            · subst hy
              have HF : Hid (First xs k [13, 10]) := First.hit HA.out (by omega) (by rw [HD.out, bnd_cons, HX1.out _ rfl hk1]; simp)
              go_wp2
              go_ret2
              exact ⟨⟨k, _, HF.out, ret_two rfl rfl⟩, hbel⟩
            · have HF : Hid (First xs k [13]) := First.hit HA.out (by omega) (by rw [HD.out, bnd_cons, HX1.out _ rfl hk1]; simp [hy])
              go_wp2
              go_ret2
              exact ⟨⟨k, _, HF.out, ret_two rfl rfl⟩, hbel⟩
          · have HF : Hid (First xs k [13]) := First.hit HA.out (by omega) (by rw [HD.out, bnd_cons, List.drop_eq_nil_of_le (by omega)]; simp)
            go_wp2
            go_ret2
            exact ⟨⟨k, _, HF.out, ret_two rfl rfl⟩, hbel⟩
        by_cases h194 : x = 194
        · subst h194
          cases hh : hasB xs k (bstr [194, 133]) with
          | true =>
            have HF : Hid (First xs k [194, 133]) := First.hit HA.out (by omega) (by
              rw [hasB_bstr, HD.out] at hh
              rw [HD.out, bnd_cons]
              have : ([133] : List Int).isPrefixOf (xs.drop (k + 1)) = true := by simpa [nums, List.isPrefixOf] using hh
              simp [this])
            go_wp2_with fail
            refine (hp_at bk off n c k 2 xs [194, 133] _ wr rfl rfl hlen HB.out hlt hnc HBK.out HCW.out).mono ?_
            rintro e w' ⟨rfl, rfl⟩
            go_wp2
            go_ret2
            exact ⟨⟨k, _, HF.out, ret_two rfl rfl⟩, hbel.alloc hsz _⟩
          | false =>
            have HO : Hid (bnd (xs.drop k) = none) := by
              unfold Hid
              rw [hasB_bstr, HD.out] at hh
              rw [HD.out, bnd_cons]
              have : ([133] : List Int).isPrefixOf (xs.drop (k + 1)) = false := by simpa [nums, List.isPrefixOf] using hh
              simp [this]
            go_wp2_with fail
            refine (hp_at bk off n c k 2 xs [194, 133] _ wr rfl rfl hlen HB.out hlt hnc HBK.out HCW.out).mono ?_
            rintro e w' ⟨rfl, rfl⟩
            go_wp2
            go_roundw
            case rel => exact ⟨k + 1, by omega, by go_num, none_succ HA.out HO.out, hbel.alloc hsz _⟩
            case measure => simp [intOf]; omega
        by_cases h226 : x = 226
        · subst h226
          have HE1 : Hid (hasB xs k (bstr [226, 128, 168]) = ([128, 168] : List Int).isPrefixOf (xs.drop (k + 1))) := by
            unfold Hid; rw [hasB_bstr, HD.out]; simp [nums]
          have HE2 : Hid (hasB xs k (bstr [226, 128, 169]) = ([128, 169] : List Int).isPrefixOf (xs.drop (k + 1))) := by
            unfold Hid; rw [hasB_bstr, HD.out]; simp [nums]
          cases hh : hasB xs k (bstr [226, 128, 168]) with
          | true =>
            have HF : Hid (First xs k [226, 128, 168]) := First.hit HA.out (by omega) (by
              rw [HE1.out] at hh
              rw [HD.out, bnd_cons]
              simp [hh])
            go_wp2_with fail
            refine (hp_at bk off n c k 3 xs [226, 128, 168] _ wr rfl rfl hlen HB.out hlt hnc HBK.out HCW.out).mono ?_
            rintro e w' ⟨rfl, rfl⟩
            go_wp2
            go_ret2
            exact ⟨⟨k, _, HF.out, ret_two rfl rfl⟩, hbel.alloc hsz _⟩
          | false =>
            have HH : Hid (([128, 168] : List Int).isPrefixOf (xs.drop (k + 1)) = false) := by unfold Hid; rw [← HE1.out]; exact hh
            cases hh2 : hasB xs k (bstr [226, 128, 169]) with
            | true =>
              have HF : Hid (First xs k [226, 128, 169]) := First.hit HA.out (by omega) (by
                rw [HE2.out] at hh2
                rw [HD.out, bnd_cons]
                simp [hh2, HH.out])
              go_wp2_with fail
              refine (hp_at bk off n c k 3 xs [226, 128, 168] _ wr rfl rfl hlen HB.out hlt hnc HBK.out HCW.out).mono ?_
              rintro e w1 ⟨rfl, hw1⟩
              have hbel1 : Below w.heap.size w w1 := hw1 ▸ hbel.alloc hsz _
              have HCW1 : Hid (∀ i, i < n → w1.cell? ⟨bk, off + i, none⟩ = some (.int .u8 (xs.getD i 0))) := fun i hi => (hbel1.cell (by exact hbk)).trans (HCW0.out i hi)
              have hsz1 : w.heap.size ≤ w1.heap.size := hbel1.size
              have HBK1 : Hid (bk < w1.heap.size) := Nat.lt_of_lt_of_le hbk hsz1
              clear hw1
              go_wp2_with fail
              refine (hp_at bk off n c k 3 xs [226, 128, 169] _ w1 rfl rfl hlen HB.out hlt hnc HBK1.out HCW1.out).mono ?_
              rintro e w' ⟨rfl, rfl⟩
              go_wp2
              go_ret2
              exact ⟨⟨k, _, HF.out, ret_two rfl rfl⟩, hbel1.alloc hsz1 _⟩
            | false =>
              have HO : Hid (bnd (xs.drop k) = none) := by
                unfold Hid
                rw [HE2.out] at hh2
                rw [HD.out, bnd_cons]
                simp [hh2, HH.out]
              go_wp2_with fail
              refine (hp_at bk off n c k 3 xs [226, 128, 168] _ wr rfl rfl hlen HB.out hlt hnc HBK.out HCW.out).mono ?_
              rintro e w1 ⟨rfl, hw1⟩
              have hbel1 : Below w.heap.size w w1 := hw1 ▸ hbel.alloc hsz _
              have HCW1 : Hid (∀ i, i < n → w1.cell? ⟨bk, off + i, none⟩ = some (.int .u8 (xs.getD i 0))) := fun i hi => (hbel1.cell (by exact hbk)).trans (HCW0.out i hi)
              have hsz1 : w.heap.size ≤ w1.heap.size := hbel1.size
              have HBK1 : Hid (bk < w1.heap.size) := Nat.lt_of_lt_of_le hbk hsz1
              clear hw1
              go_wp2_with fail
              refine (hp_at bk off n c k 3 xs [226, 128, 169] _ w1 rfl rfl hlen HB.out hlt hnc HBK1.out HCW1.out).mono ?_
              rintro e w' ⟨rfl, rfl⟩
              go_wp2
              go_roundw
              case rel => exact ⟨k + 1, by omega, by go_num, none_succ HA.out HO.out, hbel1.alloc hsz1 _⟩
              case measure => simp [intOf]; omega
        have HO : Hid (bnd (xs.drop k) = none) := by
          unfold Hid; rw [HD.out]
          exact bnd_other _ _ (by omega) (by omega) (by omega) (by omega) (by omega) (by omega) (by omega) (by omega) (by omega)
        rcases hA' with hA1 | hA1
        all_goals
          go_wp2
          go_roundw
          case rel => exact ⟨k + 1, by omega, by go_num, none_succ HA.out HO.out, hbel⟩
          case measure => simp [intOf]; omega
    · go_wp2
      go_ret2
      exact ⟨⟨k, [], First.end HA.out (by omega), ret_two (by omega) rfl⟩, hbel⟩
end Go.Proofs.Ybulkedcc
