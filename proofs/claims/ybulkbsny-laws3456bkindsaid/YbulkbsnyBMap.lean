/-
  The law 'Kind' over at least one entry, with a map: its walk, twice: the type as it came, or picked out of the entries.
-/
import Derived.Test.YbulkbsnyBRel
namespace Go.Proofs.Ybulkbsny
open Go.RowKit Go.Maps

set_option maxHeartbeats 3200000 in
set_option maxRecDepth 100000 in
theorem map_plain (b off n cap : Nat) (nm : Nat → ByteArray) (md : Nat → Int) (typ : ByteArray) (pick : Int) (w : World) (hn : n ≤ 1024) (hn0 : 0 < n) (hp0 : 0 ≤ pick) (hp1 : pick ≤ 255)
    (h0 : ∀ i, i < n → w.cell? ⟨b, off + i * 2, none⟩ = some (.string (nm i)))
    (h1 : ∀ i, i < n → w.cell? ⟨b, off + i * 2 + 1, none⟩ = some (.int .u8 (md i)))
    (hs : ∀ i, i < n → (nm i).size ≤ maxLen) (hm : ∀ i, i < n → 0 ≤ md i ∧ md i ≤ 255) (ht0 : typ.size ≤ maxLen) (hb : b < w.heap.size) (hc : ¬ pick % 2 = 1) :
    Calls Yba.prog 5 #[.slice (some ⟨b, off, none⟩) n cap, .string typ, .int .u8 pick, .bool false] w fun e w' => e = .returned (.bool true) ∧ Below w.heap.size w w' := by
  have hmm := @run_makeMap Yba.prog
  obtain ⟨t, htt⟩ : ∃ t, typ = t := ⟨_, rfl⟩
  subst htt
  have ht := ht0
  have H0 : Hid (∀ i, i < n → w.cell? ⟨b, off + i * 2, none⟩ = some (.string (nm i))) := h0
  clear h0
  obtain ⟨i0, hi, hz0, hz1, hz2⟩ := info_parts Yba.info48
  go_enter Yba.func5, Yba.ntmps5
  go_wp2_with (first | (at_make; refine wpList_make_full _ rfl _ _ 45 rfl w.heap.size 48 i0 (.pointer none) 1 Yba.underlying45 hi hz0 hz1 _ _ _ _ n rfl rfl rfl rfl (by rw [hz2]; omega) (by unfold maxLen; omega) (Nat.le_refl _) ?_))
  intro w1 hown hgrow
  have hB1 : Below w.heap.size w w1 := (Below.refl _ _).grown hgrow (Nat.le_refl _) (fun _ h => by cases h)
  have hlt1 : w.heap.size < w1.heap.size := (hown.lt w.heap.size rfl).2
  have R0 := Rel.start (nm := nm) hown hB1 hlt1
  clear hown hgrow hB1
  go_wp2
  go_loopw [11] (fun i wr => ∃ (k : Nat) (xs : List Value), k ≤ n ∧ i = .int .i64 k ∧ Rel w n w1.heap.size nm k xs wr) (fun i _ => n - (intOf i).toNat)
  case atStart => exact ⟨0, _, Nat.zero_le _, rfl, R0⟩
  case round =>
    obtain ⟨k, xs, hk, rfl, hR⟩ := hrel
    clear R0
    by_cases hlt : k < n
    · have c0 : wr.cell? ⟨b, off + k * 2, none⟩ = some (.string (nm k)) := (hR.bel.cell (p := ⟨b, off + k * 2, none⟩) hb).trans (H0.out k hlt)
      have c1 : wr.cell? ⟨b, off + k * 2 + 1, none⟩ = some (.int .u8 (md k)) := (hR.bel.cell (p := ⟨b, off + k * 2 + 1, none⟩) hb).trans (h1 k hlt)
      obtain ⟨⟨u, hu⟩, hfr, hFlt, hxl⟩ := hR.cell hlt
      have hbw : b < wr.heap.size := by have := hR.bel.size; omega
      have hF1 : w.heap.size < wr.heap.size + 1 := by omega
      have hF2 : w.heap.size < wr.heap.size + 1 + 1 := by omega
      have hF3 : w.heap.size < wr.heap.size + 1 + 1 + 1 := by omega
      have hlt' : (k : Int) < (n : Int) := by omega
      have hmk := hm k hlt
      have hsk := hs k hlt
      obtain ⟨D, hD, hat⟩ := hR.map
      have hkey := WideMaps.keyOf_string_mk Yba.underlying9 hsk
      have HR : Hid (Rel w n w1.heap.size nm k xs wr) := hR
      have hap := hR.apart
      clear hR H0 h1 hs hm
      rcases (show md k % 4 = 0 ∨ md k % 4 = 1 ∨ md k % 4 = 2 ∨ md k % 4 = 3 from by omega) with e | e | e | e
      · go_wp2_with (first | (at_mapUpdate; refine wpList_mapUpdate_own _ rfl _ _ _ 47 rfl 9 48 law Yba.underlying47 Rv w1.heap.size k D rfl ((hD.setCell (Nat.ne_of_gt hap) _).alloc _) (by unfold maxLen; omega) _ _ _ rfl rfl hkey _ [] rfl ?_))
        intro w2 own2 grow2
        have R := HR.out.step hlt hat hD.isMap (grown1 _ _) (.inl ⟨rfl, rfl, rfl⟩) own2 grow2
        clear own2 grow2 hat hD HR hu hfr
        go_wp2
        go_roundw
        case rel => exact ⟨k + 1, _, by omega, by go_num, R⟩
        case measure => simp [intOf]; omega
      · go_wp2_with (first | (at_mapUpdate; refine wpList_mapUpdate_own _ rfl _ _ _ 47 rfl 9 48 law Yba.underlying47 Rv w1.heap.size k D rfl (((hD.setCell (Nat.ne_of_gt hap) _).alloc _).alloc _) (by unfold maxLen; omega) _ _ _ rfl rfl hkey _ [] rfl ?_))
        intro w2 own2 grow2
        have R := HR.out.step hlt hat hD.isMap (grown2 _ _ _) (file_one _ (by simp) (by have := HR.out.room; omega) rfl) own2 grow2
        clear own2 grow2 hat hD HR hu hfr
        go_wp2
        go_roundw
        case rel => exact ⟨k + 1, _, by omega, by go_num, R⟩
        case measure => simp [intOf]; omega
      · go_wp2_with (first | (at_mapUpdate; refine wpList_mapUpdate_own _ rfl _ _ _ 47 rfl 9 48 law Yba.underlying47 Rv w1.heap.size k D rfl ((((hD.setCell (Nat.ne_of_gt hap) _).alloc _).alloc _).alloc _) (by unfold maxLen; omega) _ _ _ rfl rfl hkey _ [] rfl ?_))
        intro w2 own2 grow2
        have R := HR.out.step hlt hat hD.isMap (grown3 _ _ _ _) (file_two _ (by simp) (by have := HR.out.room; omega) rfl rfl) own2 grow2
        clear own2 grow2 hat hD HR hu hfr
        go_wp2
        go_roundw
        case rel => exact ⟨k + 1, _, by omega, by go_num, R⟩
        case measure => simp [intOf]; omega
      · go_wp2_with (first | (at_mapUpdate; refine wpList_mapUpdate_own _ rfl _ _ _ 47 rfl 9 48 law Yba.underlying47 Rv w1.heap.size k D rfl (((((hD.setCell (Nat.ne_of_gt hap) _).alloc _).alloc _).alloc _).alloc _) (by unfold maxLen; omega) _ _ _ rfl rfl hkey _ [] rfl ?_))
        intro w2 own2 grow2
        have R := HR.out.step hlt hat hD.isMap (grown4 _ _ _ _ _) (file_three _ _ (by simp) (by have := HR.out.room; omega) rfl rfl) own2 grow2
        clear own2 grow2 hat hD HR hu hfr
        go_wp2
        go_roundw
        case rel => exact ⟨k + 1, _, by omega, by go_num, R⟩
        case measure => simp [intOf]; omega
    · obtain rfl : k = n := by omega
      have c0 : ∀ j, j < k → wr.cell? ⟨b, off + j * 2, none⟩ = some (.string (nm j)) := fun j hj => (hR.bel.cell (p := ⟨b, off + j * 2, none⟩) hb).trans (H0.out j hj)
      clear H0 h1 hs hm
      go_wp2
      go_loop [14, 15] (fun wv i => ∃ m : Nat, wv = .pointer none ∧ m ≤ k ∧ i = .int .i64 ((m : Int) - 1) ∧ ∀ j, m ≤ j → j < k → (nm j).data.toList ≠ typ.data.toList) (fun _ i => (intOf i + 1).toNat)
      case atStart => exact ⟨k, rfl, Nat.le_refl _, rfl, fun j h1 h2 => by omega⟩
      case round =>
        obtain ⟨m, rfl, hm, rfl, hno⟩ := hrel
        by_cases hm0 : m = 0
        · subst hm0
          have hv := lastV_none nm xs typ k (fun j hj => hno j (by omega) hj)
          have hrun := hR.look typ ht (.cells zeroKind 70)
          rw [hv] at hrun
          go_wp2_with (go_at_call 13; refine (kind_any _ _ (.pointer none) (.pointer none) (.pointer none) _ (.inl ⟨rfl, rfl, rfl⟩) hrun).mono ?_; rintro e w4 ⟨rfl, hB4⟩)
          go_ret
          exact ⟨rfl, (hR.bel.trans (hB4.mono hR.bel.size)).alloc (Nat.le_trans hR.bel.size hB4.size) _⟩
        · obtain ⟨q, rfl⟩ : ∃ q, m = q + 1 := ⟨m - 1, by omega⟩
          have cq := c0 q (by omega)
          have hq : ((q + 1 : Nat) : Int) - 1 = (q : Int) := by omega
          rw [hq]
          have hfq := hR.fileAt (q := q) (by omega)
          by_cases he : (nm q).data.toList = typ.data.toList
          · have he' : ((nm q).toList == typ.toList) = true := by rw [ByteArray.toList_eq, ByteArray.toList_eq, he]; simp
            have hv := lastV_hit nm xs typ q he k (by omega) hno
            obtain ⟨sv, dv, hfile⟩ := hR.last typ
            have hrun := hR.look typ ht (.cells zeroKind 70)
            rw [hv] at hrun hfile
            generalize xs.getD q (.pointer none) = v at hrun hfile hfq
            have hk13 := kind_any (.map (some w1.heap.size)) typ v sv dv wr hfile hrun
            have hB : Below w.heap.size w wr := hR.bel
            have hBs := hB.size
            have q48 := eq48
            have q54 := eq54
            have q59 := eq59
            clear hR hv hno he hrun c0
            rcases hfile with ⟨rfl, rfl, rfl⟩ | ⟨bf, rfl, h5, rfl, rfl⟩ | ⟨bf, d, so, rfl, h5, h2, rfl, rfl⟩
            all_goals
              go_wp2_with (go_at_call 13; refine hk13.mono ?_; rintro e w4 ⟨rfl, hB4⟩)
              go_ret
              exact ⟨rfl, (hB.trans (hB4.mono hBs)).alloc (Nat.le_trans hBs hB4.size) _⟩
          · have he' : ((nm q).toList == typ.toList) = false := by rw [ByteArray.toList_eq, ByteArray.toList_eq]; simpa using he
            have hno' : ∀ j, q ≤ j → j < k → (nm j).data.toList ≠ typ.data.toList := fun j h1 h2 => by
              by_cases e : j = q
              · subst e; exact he
              · exact hno j (by omega) h2
            clear hno he
            go_wp2
            go_round
            case rel => exact ⟨q, rfl, by omega, rfl, hno'⟩
            case measure => simp [intOf]

set_option maxHeartbeats 3200000 in
set_option maxRecDepth 100000 in
theorem map_pick (b off n cap : Nat) (nm : Nat → ByteArray) (md : Nat → Int) (typ : ByteArray) (pick : Int) (w : World) (hn : n ≤ 1024) (hn0 : 0 < n) (hp0 : 0 ≤ pick) (hp1 : pick ≤ 255)
    (h0 : ∀ i, i < n → w.cell? ⟨b, off + i * 2, none⟩ = some (.string (nm i)))
    (h1 : ∀ i, i < n → w.cell? ⟨b, off + i * 2 + 1, none⟩ = some (.int .u8 (md i)))
    (hs : ∀ i, i < n → (nm i).size ≤ maxLen) (hm : ∀ i, i < n → 0 ≤ md i ∧ md i ≤ 255) (hb : b < w.heap.size) (hc : pick % 2 = 1) :
    Calls Yba.prog 5 #[.slice (some ⟨b, off, none⟩) n cap, .string typ, .int .u8 pick, .bool false] w fun e w' => e = .returned (.bool true) ∧ Below w.heap.size w w' := by
  have hmm := @run_makeMap Yba.prog
  have hz0' := Int.emod_nonneg (pick / 2) (b := (n : Int)) (by omega)
  have hz1' := Int.emod_lt_of_pos (pick / 2) (b := (n : Int)) (by omega)
  obtain ⟨j, hj⟩ := Int.eq_ofNat_of_zero_le hz0'
  have hjn : j < n := by omega
  have hcj := h0 j hjn
  have ht := hs j hjn
  obtain ⟨t, htt⟩ : ∃ t, nm j = t := ⟨_, rfl⟩
  rw [htt] at hcj ht
  have H0 : Hid (∀ i, i < n → w.cell? ⟨b, off + i * 2, none⟩ = some (.string (nm i))) := h0
  clear htt hz0' hz1' h0
  obtain ⟨i0, hi, hz0, hz1, hz2⟩ := info_parts Yba.info48
  go_enter Yba.func5, Yba.ntmps5
  go_wp2_with (first | (at_make; refine wpList_make_full _ rfl _ _ 45 rfl w.heap.size 48 i0 (.pointer none) 1 Yba.underlying45 hi hz0 hz1 _ _ _ _ n rfl rfl rfl rfl (by rw [hz2]; omega) (by unfold maxLen; omega) (Nat.le_refl _) ?_))
  intro w1 hown hgrow
  have hB1 : Below w.heap.size w w1 := (Below.refl _ _).grown hgrow (Nat.le_refl _) (fun _ h => by cases h)
  have hlt1 : w.heap.size < w1.heap.size := (hown.lt w.heap.size rfl).2
  have R0 := Rel.start (nm := nm) hown hB1 hlt1
  clear hown hgrow hB1
  go_wp2
  go_loopw [11] (fun i wr => ∃ (k : Nat) (xs : List Value), k ≤ n ∧ i = .int .i64 k ∧ Rel w n w1.heap.size nm k xs wr) (fun i _ => n - (intOf i).toNat)
  case atStart => exact ⟨0, _, Nat.zero_le _, rfl, R0⟩
  case round =>
    obtain ⟨k, xs, hk, rfl, hR⟩ := hrel
    clear R0
    by_cases hlt : k < n
    · have c0 : wr.cell? ⟨b, off + k * 2, none⟩ = some (.string (nm k)) := (hR.bel.cell (p := ⟨b, off + k * 2, none⟩) hb).trans (H0.out k hlt)
      have c1 : wr.cell? ⟨b, off + k * 2 + 1, none⟩ = some (.int .u8 (md k)) := (hR.bel.cell (p := ⟨b, off + k * 2 + 1, none⟩) hb).trans (h1 k hlt)
      obtain ⟨⟨u, hu⟩, hfr, hFlt, hxl⟩ := hR.cell hlt
      have hbw : b < wr.heap.size := by have := hR.bel.size; omega
      have hF1 : w.heap.size < wr.heap.size + 1 := by omega
      have hF2 : w.heap.size < wr.heap.size + 1 + 1 := by omega
      have hF3 : w.heap.size < wr.heap.size + 1 + 1 + 1 := by omega
      have hlt' : (k : Int) < (n : Int) := by omega
      have hmk := hm k hlt
      have hsk := hs k hlt
      obtain ⟨D, hD, hat⟩ := hR.map
      have hkey := WideMaps.keyOf_string_mk Yba.underlying9 hsk
      have HR : Hid (Rel w n w1.heap.size nm k xs wr) := hR
      have hap := hR.apart
      clear hR H0 h1 hs hm
      rcases (show md k % 4 = 0 ∨ md k % 4 = 1 ∨ md k % 4 = 2 ∨ md k % 4 = 3 from by omega) with e | e | e | e
      · go_wp2_with (first | (at_mapUpdate; refine wpList_mapUpdate_own _ rfl _ _ _ 47 rfl 9 48 law Yba.underlying47 Rv w1.heap.size k D rfl ((hD.setCell (Nat.ne_of_gt hap) _).alloc _) (by unfold maxLen; omega) _ _ _ rfl rfl hkey _ [] rfl ?_))
        intro w2 own2 grow2
        have R := HR.out.step hlt hat hD.isMap (grown1 _ _) (.inl ⟨rfl, rfl, rfl⟩) own2 grow2
        clear own2 grow2 hat hD HR hu hfr
        go_wp2
        go_roundw
        case rel => exact ⟨k + 1, _, by omega, by go_num, R⟩
        case measure => simp [intOf]; omega
      · go_wp2_with (first | (at_mapUpdate; refine wpList_mapUpdate_own _ rfl _ _ _ 47 rfl 9 48 law Yba.underlying47 Rv w1.heap.size k D rfl (((hD.setCell (Nat.ne_of_gt hap) _).alloc _).alloc _) (by unfold maxLen; omega) _ _ _ rfl rfl hkey _ [] rfl ?_))
        intro w2 own2 grow2
        have R := HR.out.step hlt hat hD.isMap (grown2 _ _ _) (file_one _ (by simp) (by have := HR.out.room; omega) rfl) own2 grow2
        clear own2 grow2 hat hD HR hu hfr
        go_wp2
        go_roundw
        case rel => exact ⟨k + 1, _, by omega, by go_num, R⟩
        case measure => simp [intOf]; omega
      · go_wp2_with (first | (at_mapUpdate; refine wpList_mapUpdate_own _ rfl _ _ _ 47 rfl 9 48 law Yba.underlying47 Rv w1.heap.size k D rfl ((((hD.setCell (Nat.ne_of_gt hap) _).alloc _).alloc _).alloc _) (by unfold maxLen; omega) _ _ _ rfl rfl hkey _ [] rfl ?_))
        intro w2 own2 grow2
        have R := HR.out.step hlt hat hD.isMap (grown3 _ _ _ _) (file_two _ (by simp) (by have := HR.out.room; omega) rfl rfl) own2 grow2
        clear own2 grow2 hat hD HR hu hfr
        go_wp2
        go_roundw
        case rel => exact ⟨k + 1, _, by omega, by go_num, R⟩
        case measure => simp [intOf]; omega
      · go_wp2_with (first | (at_mapUpdate; refine wpList_mapUpdate_own _ rfl _ _ _ 47 rfl 9 48 law Yba.underlying47 Rv w1.heap.size k D rfl (((((hD.setCell (Nat.ne_of_gt hap) _).alloc _).alloc _).alloc _).alloc _) (by unfold maxLen; omega) _ _ _ rfl rfl hkey _ [] rfl ?_))
        intro w2 own2 grow2
        have R := HR.out.step hlt hat hD.isMap (grown4 _ _ _ _ _) (file_three _ _ (by simp) (by have := HR.out.room; omega) rfl rfl) own2 grow2
        clear own2 grow2 hat hD HR hu hfr
        go_wp2
        go_roundw
        case rel => exact ⟨k + 1, _, by omega, by go_num, R⟩
        case measure => simp [intOf]; omega
    · obtain rfl : k = n := by omega
      have c0 : ∀ j, j < k → wr.cell? ⟨b, off + j * 2, none⟩ = some (.string (nm j)) := fun j hj => (hR.bel.cell (p := ⟨b, off + j * 2, none⟩) hb).trans (H0.out j hj)
      clear H0 h1 hs hm
      go_wp2
      go_loop [14, 15] (fun wv i => ∃ m : Nat, wv = .pointer none ∧ m ≤ k ∧ i = .int .i64 ((m : Int) - 1) ∧ ∀ j, m ≤ j → j < k → (nm j).data.toList ≠ t.data.toList) (fun _ i => (intOf i + 1).toNat)
      case atStart => exact ⟨k, rfl, Nat.le_refl _, rfl, fun j h1 h2 => by omega⟩
      case round =>
        obtain ⟨m, rfl, hm, rfl, hno⟩ := hrel
        by_cases hm0 : m = 0
        · subst hm0
          have hv := lastV_none nm xs t k (fun j hj => hno j (by omega) hj)
          have hrun := hR.look t ht (.cells zeroKind 70)
          rw [hv] at hrun
          go_wp2_with (go_at_call 13; refine (kind_any _ _ (.pointer none) (.pointer none) (.pointer none) _ (.inl ⟨rfl, rfl, rfl⟩) hrun).mono ?_; rintro e w4 ⟨rfl, hB4⟩)
          go_ret
          exact ⟨rfl, (hR.bel.trans (hB4.mono hR.bel.size)).alloc (Nat.le_trans hR.bel.size hB4.size) _⟩
        · obtain ⟨q, rfl⟩ : ∃ q, m = q + 1 := ⟨m - 1, by omega⟩
          have cq := c0 q (by omega)
          have hq : ((q + 1 : Nat) : Int) - 1 = (q : Int) := by omega
          rw [hq]
          have hfq := hR.fileAt (q := q) (by omega)
          by_cases he : (nm q).data.toList = t.data.toList
          · have he' : ((nm q).toList == t.toList) = true := by rw [ByteArray.toList_eq, ByteArray.toList_eq, he]; simp
            have hv := lastV_hit nm xs t q he k (by omega) hno
            obtain ⟨sv, dv, hfile⟩ := hR.last t
            have hrun := hR.look t ht (.cells zeroKind 70)
            rw [hv] at hrun hfile
            generalize xs.getD q (.pointer none) = v at hrun hfile hfq
            have hk13 := kind_any (.map (some w1.heap.size)) t v sv dv wr hfile hrun
            have hB : Below w.heap.size w wr := hR.bel
            have hBs := hB.size
            have q48 := eq48
            have q54 := eq54
            have q59 := eq59
            clear hR hv hno he hrun c0
            rcases hfile with ⟨rfl, rfl, rfl⟩ | ⟨bf, rfl, h5, rfl, rfl⟩ | ⟨bf, d, so, rfl, h5, h2, rfl, rfl⟩
            all_goals
              go_wp2_with (go_at_call 13; refine hk13.mono ?_; rintro e w4 ⟨rfl, hB4⟩)
              go_ret
              exact ⟨rfl, (hB.trans (hB4.mono hBs)).alloc (Nat.le_trans hBs hB4.size) _⟩
          · have he' : ((nm q).toList == t.toList) = false := by rw [ByteArray.toList_eq, ByteArray.toList_eq]; simpa using he
            have hno' : ∀ j, q ≤ j → j < k → (nm j).data.toList ≠ t.data.toList := fun j h1 h2 => by
              by_cases e : j = q
              · subst e; exact he
              · exact hno j (by omega) h2
            clear hno he
            go_wp2
            go_round
            case rel => exact ⟨q, rfl, by omega, rfl, hno'⟩
            case measure => simp [intOf]

end Go.Proofs.Ybulkbsny
