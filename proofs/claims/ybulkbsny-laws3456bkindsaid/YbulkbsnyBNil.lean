/-
  The law 'Kind' over at least one entry, with a nil map: its walk, twice: the type as it came, or picked out of the entries.
-/
import Derived.Test.YbulkbsnyBRel
namespace Go.Proofs.Ybulkbsny
open Go.RowKit Go.Maps

set_option maxHeartbeats 3200000 in
set_option maxRecDepth 100000 in
theorem nil_plain (b off n cap : Nat) (nm : Nat → ByteArray) (md : Nat → Int) (typ : ByteArray) (pick : Int) (w : World) (hn : n ≤ 1024) (hn0 : 0 < n) (hp0 : 0 ≤ pick) (hp1 : pick ≤ 255)
    (h0 : ∀ i, i < n → w.cell? ⟨b, off + i * 2, none⟩ = some (.string (nm i)))
    (h1 : ∀ i, i < n → w.cell? ⟨b, off + i * 2 + 1, none⟩ = some (.int .u8 (md i)))
    (_hs : ∀ i, i < n → (nm i).size ≤ maxLen) (hm : ∀ i, i < n → 0 ≤ md i ∧ md i ≤ 255) (ht0 : typ.size ≤ maxLen) (hb : b < w.heap.size) (hc : ¬ pick % 2 = 1) :
    Calls Yba.prog 5 #[.slice (some ⟨b, off, none⟩) n cap, .string typ, .int .u8 pick, .bool true] w fun e w' => e = .returned (.bool true) ∧ Below w.heap.size w w' := by
  obtain ⟨t, htt⟩ : ∃ t, typ = t := ⟨_, rfl⟩
  subst htt
  have ht := ht0
  have H0 : Hid (∀ i, i < n → w.cell? ⟨b, off + i * 2, none⟩ = some (.string (nm i))) := h0
  clear h0
  obtain ⟨i0, hi, hz0, hz1, hz2⟩ := info_parts Yba.info48
  go_enter Yba.func5, Yba.ntmps5
  go_wp2_with (first | (at_make; refine wpList_make_full _ rfl _ _ 45 rfl w.heap.size 48 i0 (.pointer none) 1 Yba.underlying45 hi hz0 hz1 _ _ _ _ n rfl rfl rfl rfl (by rw [hz2]; omega) (by unfold maxLen; omega) (Nat.le_refl _) ?_))
  intro w1 hown hgrow
  have hB1 : Below w.heap.size w w1 := (Below.refl _ _).grown hgrow (Nat.le_refl _) (fun _ h => by cases h)
  have R0 : RelN w n _ w1 := ⟨hown, hB1⟩
  clear hown hgrow hB1
  go_wp2
  go_loopw [11] (fun i wr => ∃ (k : Nat) (xs : List Value), k ≤ n ∧ i = .int .i64 k ∧ RelN w n xs wr) (fun i _ => n - (intOf i).toNat)
  case atStart => exact ⟨0, _, Nat.zero_le _, rfl, R0⟩
  case round =>
    obtain ⟨k, xs, hk, rfl, hR⟩ := hrel
    clear R0
    by_cases hlt : k < n
    · have c0 : wr.cell? ⟨b, off + k * 2, none⟩ = some (.string (nm k)) := (hR.bel.cell (p := ⟨b, off + k * 2, none⟩) hb).trans (H0.out k hlt)
      have c1 : wr.cell? ⟨b, off + k * 2 + 1, none⟩ = some (.int .u8 (md k)) := (hR.bel.cell (p := ⟨b, off + k * 2 + 1, none⟩) hb).trans (h1 k hlt)
      obtain ⟨⟨u, hu⟩, hfr, hFlt⟩ := hR.cell hlt
      have hbw : b < wr.heap.size := by have := hR.bel.size; omega
      have hF1 : w.heap.size < wr.heap.size + 1 := by omega
      have hF2 : w.heap.size < wr.heap.size + 1 + 1 := by omega
      have hF3 : w.heap.size < wr.heap.size + 1 + 1 + 1 := by omega
      have hlt' : (k : Int) < (n : Int) := by omega
      have hmk := hm k hlt
      have HR : Hid (RelN w n xs wr) := hR
      clear hR H0 h1 _hs hm
      rcases (show md k % 4 = 0 ∨ md k % 4 = 1 ∨ md k % 4 = 2 ∨ md k % 4 = 3 from by omega) with e | e | e | e
      · go_wp2
        go_roundw
        case rel => exact ⟨k + 1, _, by omega, by go_num, HR.out.step (grown1 _ _)⟩
        case measure => simp [intOf]; omega
      · go_wp2
        go_roundw
        case rel => exact ⟨k + 1, _, by omega, by go_num, HR.out.step (grown2 _ _ _)⟩
        case measure => simp [intOf]; omega
      · go_wp2
        go_roundw
        case rel => exact ⟨k + 1, _, by omega, by go_num, HR.out.step (grown3 _ _ _ _)⟩
        case measure => simp [intOf]; omega
      · go_wp2
        go_roundw
        case rel => exact ⟨k + 1, _, by omega, by go_num, HR.out.step (grown4 _ _ _ _ _)⟩
        case measure => simp [intOf]; omega
    · have hrun := look_none typ ht (wr.alloc (.cells zeroKind 70))
      have hB : Below w.heap.size w wr := hR.bel
      have hBs := hB.size
      clear H0 h1 _hs hm hR
      go_wp2_with (go_at_call 13; refine (kind_any _ _ (.pointer none) (.pointer none) (.pointer none) _ (.inl ⟨rfl, rfl, rfl⟩) hrun).mono ?_; rintro e w4 ⟨rfl, hB4⟩)
      go_ret
      exact ⟨rfl, (hB.trans (hB4.mono hBs)).alloc (Nat.le_trans hBs hB4.size) _⟩

set_option maxHeartbeats 3200000 in
set_option maxRecDepth 100000 in
theorem nil_pick (b off n cap : Nat) (nm : Nat → ByteArray) (md : Nat → Int) (typ : ByteArray) (pick : Int) (w : World) (hn : n ≤ 1024) (hn0 : 0 < n) (hp0 : 0 ≤ pick) (hp1 : pick ≤ 255)
    (h0 : ∀ i, i < n → w.cell? ⟨b, off + i * 2, none⟩ = some (.string (nm i)))
    (h1 : ∀ i, i < n → w.cell? ⟨b, off + i * 2 + 1, none⟩ = some (.int .u8 (md i)))
    (hs : ∀ i, i < n → (nm i).size ≤ maxLen) (hm : ∀ i, i < n → 0 ≤ md i ∧ md i ≤ 255) (hb : b < w.heap.size) (hc : pick % 2 = 1) :
    Calls Yba.prog 5 #[.slice (some ⟨b, off, none⟩) n cap, .string typ, .int .u8 pick, .bool true] w fun e w' => e = .returned (.bool true) ∧ Below w.heap.size w w' := by
  have hz0' := Int.emod_nonneg (pick / 2) (b := (n : Int)) (by omega)
  have hz1' := Int.emod_lt_of_pos (pick / 2) (b := (n : Int)) (by omega)
  obtain ⟨j, hj⟩ := Int.eq_ofNat_of_zero_le hz0'
  have hjn : j < n := by omega
  have hcj := h0 j hjn
  have ht := hs j hjn
  obtain ⟨t, htt⟩ : ∃ t, nm j = t := ⟨_, rfl⟩
  rw [htt] at hcj ht
  have H0 : Hid (∀ i, i < n → w.cell? ⟨b, off + i * 2, none⟩ = some (.string (nm i))) := h0
  clear htt hz0' hz1' h0
  obtain ⟨i0, hi, hz0, hz1, hz2⟩ := info_parts Yba.info48
  go_enter Yba.func5, Yba.ntmps5
  go_wp2_with (first | (at_make; refine wpList_make_full _ rfl _ _ 45 rfl w.heap.size 48 i0 (.pointer none) 1 Yba.underlying45 hi hz0 hz1 _ _ _ _ n rfl rfl rfl rfl (by rw [hz2]; omega) (by unfold maxLen; omega) (Nat.le_refl _) ?_))
  intro w1 hown hgrow
  have hB1 : Below w.heap.size w w1 := (Below.refl _ _).grown hgrow (Nat.le_refl _) (fun _ h => by cases h)
  have R0 : RelN w n _ w1 := ⟨hown, hB1⟩
  clear hown hgrow hB1
  go_wp2
  go_loopw [11] (fun i wr => ∃ (k : Nat) (xs : List Value), k ≤ n ∧ i = .int .i64 k ∧ RelN w n xs wr) (fun i _ => n - (intOf i).toNat)
  case atStart => exact ⟨0, _, Nat.zero_le _, rfl, R0⟩
  case round =>
    obtain ⟨k, xs, hk, rfl, hR⟩ := hrel
    clear R0
    by_cases hlt : k < n
    · have c0 : wr.cell? ⟨b, off + k * 2, none⟩ = some (.string (nm k)) := (hR.bel.cell (p := ⟨b, off + k * 2, none⟩) hb).trans (H0.out k hlt)
      have c1 : wr.cell? ⟨b, off + k * 2 + 1, none⟩ = some (.int .u8 (md k)) := (hR.bel.cell (p := ⟨b, off + k * 2 + 1, none⟩) hb).trans (h1 k hlt)
      obtain ⟨⟨u, hu⟩, hfr, hFlt⟩ := hR.cell hlt
      have hbw : b < wr.heap.size := by have := hR.bel.size; omega
      have hF1 : w.heap.size < wr.heap.size + 1 := by omega
      have hF2 : w.heap.size < wr.heap.size + 1 + 1 := by omega
      have hF3 : w.heap.size < wr.heap.size + 1 + 1 + 1 := by omega
      have hlt' : (k : Int) < (n : Int) := by omega
      have hmk := hm k hlt
      have HR : Hid (RelN w n xs wr) := hR
      clear hR H0 h1 hs hm
      rcases (show md k % 4 = 0 ∨ md k % 4 = 1 ∨ md k % 4 = 2 ∨ md k % 4 = 3 from by omega) with e | e | e | e
      · go_wp2
        go_roundw
        case rel => exact ⟨k + 1, _, by omega, by go_num, HR.out.step (grown1 _ _)⟩
        case measure => simp [intOf]; omega
      · go_wp2
        go_roundw
        case rel => exact ⟨k + 1, _, by omega, by go_num, HR.out.step (grown2 _ _ _)⟩
        case measure => simp [intOf]; omega
      · go_wp2
        go_roundw
        case rel => exact ⟨k + 1, _, by omega, by go_num, HR.out.step (grown3 _ _ _ _)⟩
        case measure => simp [intOf]; omega
      · go_wp2
        go_roundw
        case rel => exact ⟨k + 1, _, by omega, by go_num, HR.out.step (grown4 _ _ _ _ _)⟩
        case measure => simp [intOf]; omega
    · have hrun := look_none t ht (wr.alloc (.cells zeroKind 70))
      have hB : Below w.heap.size w wr := hR.bel
      have hBs := hB.size
      clear H0 h1 hs hm hR
      go_wp2_with (go_at_call 13; refine (kind_any _ _ (.pointer none) (.pointer none) (.pointer none) _ (.inl ⟨rfl, rfl, rfl⟩) hrun).mono ?_; rintro e w4 ⟨rfl, hB4⟩)
      go_ret
      exact ⟨rfl, (hB.trans (hB4.mono hBs)).alloc (Nat.le_trans hBs hB4.size) _⟩

end Go.Proofs.Ybulkbsny
