/-
  The law 'Take': its walk.
-/
import Derived.Test.YbulkbstwTake
import Derived.Laws.EntriesVeiled
namespace Go.Proofs.Ybulkbstw
open Go.RowKit

theorem Yba.info23 : (Yba.prog.info? 23).map (fun i => (i.zero, i.size, i.bytes)) = some (some (.pointer none), 1, 8) := by kernel_rfl

/-- 'push' of the task that a round of the law's loop has made. -/
theorem bld_push {w wr : World} {G k i : Nat} {xs : List Value} (h : Bld w G k i xs wr) (hi : i < k) (hk : k ≤ 1024) :
    Calls Yba.prog 5 #[.pointer (some ⟨G, 0, none⟩), .pointer (some ⟨wr.heap.size, 0, none⟩)] ((wr.setCell ⟨w.heap.size, i, none⟩ (.pointer (some ⟨wr.heap.size, 0, none⟩))).alloc (.cells #[.nilFunc, .pointer none, .pointer none, .pointer none] 37)) fun e w' =>
      e = .returned (.tuple #[]) ∧ ∃ xs', Bld w G k (i + 1) xs' w' := by
  have hs := h.size
  rw [hs]
  obtain ⟨W, hW⟩ : ∃ W, W = (wr.setCell ⟨w.heap.size, i, none⟩ (pt (G + 1 + i))).alloc (taskB (.pointer none)) := ⟨_, rfl⟩
  obtain ⟨m1, m2, m3, m4, m5, m6⟩ := h.mid hW
  have hgoal : Calls Yba.prog 5 #[.pointer (some ⟨G, 0, none⟩), pt (G + 1 + i)] W fun e w' => e = .returned (.tuple #[]) ∧ ∃ xs', Bld w G k (i + 1) xs' w' := by
    have c0 : W.cell? ⟨G, 0, none⟩ = some (hdV G 0 i) := by rw [cell_at m2]; rfl
    have c2 : W.cell? ⟨G, 2, none⟩ = some (.int .i64 (i : Int)) := by rw [cell_at m2]; rfl
    by_cases e : i = 0
    · have c1 : W.cell? ⟨G, 1, none⟩ = some (.pointer none) := by
        have ht : tlV G 0 i = .pointer none := by unfold tlV; rw [if_neg (by omega)]
        rw [cell_at m2, ← ht]; rfl
      refine (push_empty G (G + 1 + i) _ _ W (by omega) (by omega) c0 c1 c2 (free_at m2)).mono ?_
      rintro e' w' ⟨rfl, rfl⟩
      exact ⟨rfl, _, h.step hi hW (by rw [if_pos e])⟩
    · have c1 : W.cell? ⟨G, 1, none⟩ = some (pt (G + 1 + (i - 1))) := by
        have ht : tlV G 0 i = pt (G + 1 + (i - 1)) := by unfold tlV; rw [if_pos (by omega)]
        rw [cell_at m2, ← ht]; rfl
      have hb := m3 (i - 1) (by omega)
      refine (push_more G (G + 1 + i) (G + 1 + (i - 1)) _ _ W (by omega) (by omega) (by omega) c1 c2 (free_at m2) (by rw [cell_at hb]; rfl) (free_at hb 2)).mono ?_
      rintro e' w' ⟨rfl, rfl⟩
      exact ⟨rfl, _, h.step hi hW (by rw [if_neg e])⟩
  rw [hW] at hgoal
  exact hgoal

/-- The comparison of the tasks lo, .., lo + n - 1 with their part of the row. -/
theorem match_seg (T G off lo n c : Nat) (ao : Option Addr) (x y : Option Addr) (w : World) (hm : n ≤ 1024) (ha : 0 < n → ao = some ⟨T, off, none⟩) (hx : hdV G lo (lo + n) = .pointer x) (hy : tlV G lo (lo + n) = .pointer y)
    (hw : ∀ j, j < n → w.cell? ⟨T, off + j, none⟩ = some (pt (G + 1 + (lo + j)))) (hn : ∀ j, j < n → w.cell? ⟨G + 1 + (lo + j), 2, none⟩ = some (if j + 1 = n then .pointer none else pt (G + 1 + (lo + (j + 1))))) :
    Calls Yba.prog 9 #[.agg #[.pointer x, .pointer y, .int .i64 (n : Int)], .slice ao n c] w fun e w' => e = .returned (.bool true) ∧ Below w.heap.size w w' := by
  rw [← hx, ← hy]
  by_cases h0 : 0 < n
  · have h1 : hdV G lo (lo + n) = pt (G + 1 + (lo + 0)) := by unfold hdV; rw [if_pos (by omega)]; rfl
    have h2 : tlV G lo (lo + n) = pt (G + 1 + (lo + (n - 1))) := by unfold tlV; rw [if_pos (by omega)]; congr 1; omega
    rw [ha h0, h1, h2]
    exact match_some T off n c (fun j => G + 1 + (lo + j)) w h0 hm (World.block_lt_of_cell? w _ (hw 0 h0)) hw hn
  · obtain rfl : n = 0 := by omega
    have h1 : hdV G lo (lo + 0) = .pointer none := by unfold hdV; rw [if_neg (by omega)]
    have h2 : tlV G lo (lo + 0) = .pointer none := by unfold tlV; rw [if_neg (by omega)]
    rw [h1, h2]
    exact match_zero ao c w

/-- The loop is done and the length is stored. -/
theorem Bld.done {w wr : World} {G k : Nat} {xs : List Value} (h : Bld w G k k xs wr) {w3 : World} (hw : w3 = wr.setCell ⟨G, 3, none⟩ (.int .i64 (k : Int))) :
    w3.heap[G]? = some (globB (hdV G 0 k) (tlV G 0 k) k k) ∧ (∀ j, j < k → w3.heap[G + 1 + j]? = some (taskB (nxV G 0 k j))) ∧ G + 1 + k ≤ w3.heap.size ∧ (∀ j, j < k → w3.cell? ⟨w.heap.size, j, none⟩ = some (pt (G + 1 + j))) ∧ Below w.heap.size w w3 := by
  have hg := h.gt
  subst hw
  refine ⟨set_at h.glob, fun j hj => by rw [set_ne _ _ _ (by omega)]; exact h.tasks j hj, by rw [set_size, h.size]; exact Nat.le_refl _, fun j hj => ?_, h.bel.setCell (p := ⟨G, 3, none⟩) (by show w.heap.size ≤ G; omega) _⟩
  rw [World.cell?_setCell_other _ _ _ _ (by intro e; simp only [Addr.mk.injEq] at e; omega), h.row.cellAt j (by omega)]
  exact h.els j hj

/-- The batch against the row's first part. -/
theorem seg_first {T G m k c : Nat} {x y ao : Option Addr} {w4 W : World} (hk : k ≤ 1024) (hmk : m ≤ k) (hao : 0 < m → ao = some ⟨T, 0, none⟩) (hx : hdV G 0 m = .pointer x) (hy : tlV G 0 m = .pointer y)
    (hrow : ∀ j, j < k → w4.cell? ⟨T, j, none⟩ = some (pt (G + 1 + j))) (hnx : ∀ j, j < k → w4.cell? ⟨G + 1 + j, 2, none⟩ = some (nxV G m k j)) (hB : Below w4.heap.size w4 W) :
    Calls Yba.prog 9 #[.agg #[.pointer x, .pointer y, .int .i64 (m : Int)], .slice ao m c] W fun e w' => e = .returned (.bool true) ∧ Below W.heap.size W w' := by
  have up : ∀ {b o : Nat} {v : Value}, w4.cell? ⟨b, o, none⟩ = some v → W.cell? ⟨b, o, none⟩ = some v := fun {b o v} hv => (hB.cell (p := ⟨b, o, none⟩) (World.block_lt_of_cell? w4 _ hv)).trans hv
  refine match_seg T G 0 0 m c _ x y W (by omega) hao (by rw [Nat.zero_add]; exact hx) (by rw [Nat.zero_add]; exact hy) (fun j hj => ?_) (fun j hj => ?_)
  · rw [Nat.zero_add]; exact up (hrow j (by omega))
  · rw [Nat.zero_add, up (hnx j (by omega)), Nat.zero_add]
    unfold nxV
    by_cases e : j + 1 = m
    · rw [if_pos (.inl e), if_pos e]
    · rw [if_neg (by omega), if_neg e]

/-- The list that is left against the row's rest. -/
theorem seg_rest {T G m k c : Nat} {x y ao : Option Addr} {w4 W : World} (hk : k ≤ 1024) (hmk : m ≤ k) (hao : 0 < k - m → ao = some ⟨T, m, none⟩) (hx : hdV G m k = .pointer x) (hy : tlV G m k = .pointer y)
    (hrow : ∀ j, j < k → w4.cell? ⟨T, j, none⟩ = some (pt (G + 1 + j))) (hnx : ∀ j, j < k → w4.cell? ⟨G + 1 + j, 2, none⟩ = some (nxV G m k j)) (hB : Below w4.heap.size w4 W) :
    Calls Yba.prog 9 #[.agg #[.pointer x, .pointer y, .int .i64 ((k : Int) - m)], .slice ao (k - m) c] W fun e w' => e = .returned (.bool true) ∧ Below W.heap.size W w' := by
  have up : ∀ {b o : Nat} {v : Value}, w4.cell? ⟨b, o, none⟩ = some v → W.cell? ⟨b, o, none⟩ = some v := fun {b o v} hv => (hB.cell (p := ⟨b, o, none⟩) (World.block_lt_of_cell? w4 _ hv)).trans hv
  have hc : (k : Int) - m = ((k - m : Nat) : Int) := by omega
  have hmm : m + (k - m) = k := by omega
  rw [hc]
  refine match_seg T G m m (k - m) c _ x y W (by omega) hao (by rw [hmm]; exact hx) (by rw [hmm]; exact hy) (fun j hj => ?_) (fun j hj => ?_)
  · exact up (hrow (m + j) (by omega))
  · rw [up (hnx (m + j) (by omega))]
    unfold nxV
    by_cases e : j + 1 = k - m
    · rw [if_pos (by omega), if_pos e]
    · rw [if_neg (by omega), if_neg e]; rfl

set_option maxHeartbeats 3200000 in
set_option maxRecDepth 100000 in
theorem law_in (k m : Nat) (t : Int) (w : World) (hk : k ≤ 1024) (hmk : m ≤ k) (ht0 : -9223372036854775808 ≤ t) (ht1 : t ≤ 9223372036854775807) (hcase : (t < 0 ∧ m = 0) ∨ (0 ≤ t ∧ t % ((k : Int) + 1) = m)) :
    Calls Yba.prog 3 #[.int .i64 (k : Int), .int .i64 t] w fun e w' => e = .returned (.bool true) ∧ Below w.heap.size w w' := by
  obtain ⟨i0, hi, hz0, hz1, hz2⟩ := info_parts Yba.info23
  have HC : Hid ((t < 0 ∧ m = 0) ∨ (0 ≤ t ∧ t % ((k : Int) + 1) = m)) := hcase
  clear hcase
  go_enter Yba.func3, Yba.ntmps3
  go_wp2_with (first | (at_make; refine wpList_make_full _ rfl _ _ 22 rfl w.heap.size 23 i0 (.pointer none) 1 Yba.underlying22 hi hz0 hz1 _ _ _ _ k rfl rfl rfl rfl (by rw [hz2]; omega) (by unfold maxLen; omega) (Nat.le_refl _) ?_))
  intro w1 hown hgrow
  have hB1 : Below w.heap.size w w1 := (Below.refl _ _).grown hgrow (Nat.le_refl _) (fun _ h => by cases h)
  have R0 := Bld.start hown hB1
  clear hown hgrow hB1
  go_wp2
  go_loopw [7] (fun c wr => ∃ (i : Nat) (xs : List Value), i ≤ k ∧ c = .int .i64 i ∧ Bld w w1.heap.size k i xs wr) (fun c _ => k - (intOf c).toNat)
  case atStart => exact ⟨0, _, Nat.zero_le _, rfl, R0⟩
  case round =>
    obtain ⟨i, xs, hi, rfl, hR⟩ := hrel
    clear R0
    by_cases hlt : i < k
    · have hpush := bld_push hR hlt hk
      have hlt' : (i : Int) < (k : Int) := by omega
      have hi0 : (0 : Int) ≤ (i : Int) := by omega
      have hxl : xs.length = k := by have := hR.row.1; omega
      obtain ⟨u, hu⟩ : ∃ u, wr.cell? ⟨w.heap.size, i, none⟩ = some u := ⟨xs[i]'(by omega), by rw [hR.row.cellAt i (by omega), List.getElem?_eq_getElem (by omega)]⟩
      have hfr : wr.frozen? ⟨w.heap.size, i, none⟩ = false := hR.row.frozenAt i
      have hTl : w.heap.size < wr.heap.size := (hR.row.lt w.heap.size rfl).2
      clear hR hxl
      go_wp2_with (go_at_call 5; refine hpush.mono ?_; rintro e w2 ⟨rfl, hR2⟩)
      obtain ⟨xs', hR2⟩ := hR2
      clear hpush hu hfr
      go_roundw
      case rel => exact ⟨i + 1, xs', by omega, by go_num, hR2⟩
      case measure => simp [intOf]; omega
    · obtain rfl : k = i := by omega
      have hgG := hR.gt
      have s3 : wr.cell? ⟨w1.heap.size, 3, none⟩ = some (.int .i64 0) := by rw [cell_at hR.glob]; rfl
      have hst := store_any w1.heap.size 0 (k : Int) wr s3 (free_at hR.glob 3)
      clear s3
      go_wp2_with fail
      refine hst.mono ?_
      rintro e w3 ⟨rfl, hw3⟩
      obtain ⟨q1, q2, q3, q4, q5⟩ := hR.done hw3
      clear hR hw3 hst
      obtain ⟨G, hG⟩ : ∃ G, w1.heap.size = G := ⟨_, rfl⟩
      rw [hG] at q1 q2 q3 q4 hgG ⊢
      clear hG
      obtain ⟨x, hx⟩ := hdV_ptr G 0 m
      obtain ⟨y, hy⟩ := tlV_ptr G 0 m
      obtain ⟨x2, hx2⟩ := hdV_ptr G m k
      obtain ⟨y2, hy2⟩ := tlV_ptr G m k
      rcases HC.out with ⟨hneg, hm0⟩ | ⟨hpos, hmod⟩
      · subst hm0
        have htake := take_any G k 0 t w3 hk hmk (.inr ⟨hneg, rfl⟩) q1 q2 q3
        rw [hx, hy, hx2, hy2] at htake
        have hneg' : ¬ (0 ≤ t) := by omega
        have ez : ((0 : Nat) : Int) = 0 := rfl
        have es : (k : Int) - ((0 : Nat) : Int) = (k : Int) := by omega
        rw [es, ez] at htake
        go_wp2_with fail
        refine htake.mono ?_
        rintro e w4 ⟨rfl, g1, g2, hB4⟩
        have hs4 := hB4.size
        have b2 : w4.cell? ⟨G, 2, none⟩ = some (.int .i64 (k : Int)) := by rw [cell_at g1]; rfl
        have b3 : w4.cell? ⟨G, 3, none⟩ = some (.int .i64 (k : Int)) := by rw [cell_at g1]; rfl
        have hlen : ∀ o : Obj, Calls Yba.prog 8 #[.pointer (some ⟨G, 0, none⟩)] (w4.alloc o) fun e w' => e = .returned (.int .i64 (k : Int)) ∧ w' = w4.alloc o := fun o => len_any G _ _ (by rw [World.cell?_alloc_past _ _ _ (by omega)]; exact b3)
        have hGl : G < w4.heap.size := by omega
        have hrow4 : ∀ j, j < k → w4.cell? ⟨w.heap.size, j, none⟩ = some (pt (G + 1 + j)) := fun j hj => (hB4.cell (p := ⟨w.heap.size, j, none⟩) hgG).trans (q4 j hj)
        have hnx4 : ∀ j, j < k → w4.cell? ⟨G + 1 + j, 2, none⟩ = some (nxV G 0 k j) := fun j hj => by rw [cell_at (g2 j hj)]; rfl
        have hmatch1 : ∀ (c : Nat) (ao : Option Addr) (W : World), Below w4.heap.size w4 W → Calls Yba.prog 9 #[.agg #[.pointer x, .pointer y, .int .i64 0], .slice ao 0 c] W fun e w' => e = .returned (.bool true) ∧ Below W.heap.size W w' := fun c ao W hB => seg_first (m := 0) (c := c) (ao := ao) hk hmk (fun h => absurd h (Nat.lt_irrefl 0)) hx hy hrow4 hnx4 hB
        have hmatch2 : ∀ (c : Nat) (ao : Option Addr) (W : World), (0 < k → ao = some ⟨w.heap.size, 0, none⟩) → Below w4.heap.size w4 W → Calls Yba.prog 9 #[.agg #[.pointer x2, .pointer y2, .int .i64 (k : Int)], .slice ao k c] W fun e w' => e = .returned (.bool true) ∧ Below W.heap.size W w' := fun c ao W ha hB => by
          have := seg_rest (c := c) (ao := ao) hk hmk (fun h => ha (by omega)) hx2 hy2 hrow4 hnx4 hB
          rw [es, Nat.sub_zero] at this; exact this
        have hB04 : Below w.heap.size w w4 := q5.trans (hB4.mono (by omega))
        have a0 : w4.cell? ⟨G, 0, none⟩ = some (.pointer x2) := by rw [cell_at g1]; rfl
        have a1 : w4.cell? ⟨G, 1, none⟩ = some (.pointer y2) := by rw [cell_at g1]; rfl
        clear hx hy hx2 hy2 q1 q2 q4 q5 g1 g2 hrow4 hnx4 htake hB4 ez es
        go_wp2_with (go_at_call 8; refine (hlen _).mono ?_; rintro e w' ⟨rfl, rfl⟩)
        go_region_held3 (fun w' => w'.cell? ⟨w4.heap.size, 0, none⟩ = some (.pointer x) ∧ w'.cell? ⟨w4.heap.size, 1, none⟩ = some (.pointer y) ∧ w'.cell? ⟨w4.heap.size, 2, none⟩ = some (.int .i64 0))
          (first | exact ⟨(hB6.cell (p := ⟨w4.heap.size, 0, none⟩) (by simp)).trans (by simp), (hB6.cell (p := ⟨w4.heap.size, 1, none⟩) (by simp)).trans (by simp), (hB6.cell (p := ⟨w4.heap.size, 2, none⟩) (by simp)).trans (by simp)⟩ | go_keep)
          (first | (go_at_call 9; refine (hmatch1 _ _ _ (((Below.refl _ _).alloc (Nat.le_refl _) _).drew)).mono ?_; rintro e w6 ⟨rfl, hB6⟩))
        have hB46 : Below w4.heap.size w4 w6 := (((Below.refl _ _).alloc (Nat.le_refl _) _).drew).trans (hB6.mono (by simp))
        have d0 : w6.cell? ⟨G, 0, none⟩ = some (.pointer x2) := (hB46.cell (p := ⟨G, 0, none⟩) hGl).trans a0
        have d1 : w6.cell? ⟨G, 1, none⟩ = some (.pointer y2) := (hB46.cell (p := ⟨G, 1, none⟩) hGl).trans a1
        have d2 : w6.cell? ⟨G, 2, none⟩ = some (.int .i64 (k : Int)) := (hB46.cell (p := ⟨G, 2, none⟩) hGl).trans b2
        have hB06 : Below w.heap.size w w6 := hB04.trans (hB46.mono hB04.size)
        have hGl6 : G < w6.heap.size := by have := hB46.size; omega
        clear a0 a1 b2 b3 hB6 hlen hmatch1 hB04
        by_cases hk0 : k = 0
        · subst hk0
          go_wp2
          go_region_held3 (fun w' => w'.cell? ⟨G, 0, none⟩ = some (.pointer x2) ∧ w'.cell? ⟨G, 1, none⟩ = some (.pointer y2) ∧ w'.cell? ⟨G, 2, none⟩ = some (.int .i64 0))
            (first | exact ⟨(hB7.cell (p := ⟨G, 0, none⟩) hGl6).trans d0, (hB7.cell (p := ⟨G, 1, none⟩) hGl6).trans d1, (hB7.cell (p := ⟨G, 2, none⟩) hGl6).trans d2⟩ | go_keep)
            (first | (go_at_call 9; refine (hmatch2 _ _ _ (fun h => absurd h (Nat.lt_irrefl 0)) hB46.drew).mono ?_; rintro e w7 ⟨rfl, hB7⟩))
          have hfin : Below w.heap.size w w7 := hB06.drew.trans (hB7.mono hB06.size)
          go_wp2
          go_ret
          exact ⟨rfl, hfin⟩
        · have hk1 : 0 < k := by omega
          go_wp2
          go_region_held3 (fun w' => w'.cell? ⟨G, 0, none⟩ = some (.pointer x2) ∧ w'.cell? ⟨G, 1, none⟩ = some (.pointer y2) ∧ w'.cell? ⟨G, 2, none⟩ = some (.int .i64 (k : Int)))
            (first | exact ⟨(hB7.cell (p := ⟨G, 0, none⟩) hGl6).trans d0, (hB7.cell (p := ⟨G, 1, none⟩) hGl6).trans d1, (hB7.cell (p := ⟨G, 2, none⟩) hGl6).trans d2⟩ | go_keep)
            (first | (go_at_call 9; refine (hmatch2 _ _ _ (fun _ => rfl) hB46.drew).mono ?_; rintro e w7 ⟨rfl, hB7⟩))
          have hfin : Below w.heap.size w w7 := hB06.drew.trans (hB7.mono hB06.size)
          go_wp2
          go_ret
          exact ⟨rfl, hfin⟩
      · have htake := take_any G k m (m : Int) w3 hk hmk (.inl rfl) q1 q2 q3
        rw [hx, hy, hx2, hy2] at htake
        go_wp2_with fail
        refine htake.mono ?_
        rintro e w4 ⟨rfl, g1, g2, hB4⟩
        have hs4 := hB4.size
        have b2 : w4.cell? ⟨G, 2, none⟩ = some (.int .i64 ((k : Int) - m)) := by rw [cell_at g1]; rfl
        have b3 : w4.cell? ⟨G, 3, none⟩ = some (.int .i64 ((k : Int) - m)) := by rw [cell_at g1]; rfl
        have hlen : ∀ o : Obj, Calls Yba.prog 8 #[.pointer (some ⟨G, 0, none⟩)] (w4.alloc o) fun e w' => e = .returned (.int .i64 ((k : Int) - m)) ∧ w' = w4.alloc o := fun o => len_any G _ _ (by rw [World.cell?_alloc_past _ _ _ (by omega)]; exact b3)
        have hGl : G < w4.heap.size := by omega
        have hm0 : (0 : Int) ≤ (m : Int) := by omega
        have hm1 : (m : Int) ≤ (k : Int) := by omega
        have hrow4 : ∀ j, j < k → w4.cell? ⟨w.heap.size, j, none⟩ = some (pt (G + 1 + j)) := fun j hj => (hB4.cell (p := ⟨w.heap.size, j, none⟩) hgG).trans (q4 j hj)
        have hnx4 : ∀ j, j < k → w4.cell? ⟨G + 1 + j, 2, none⟩ = some (nxV G m k j) := fun j hj => by rw [cell_at (g2 j hj)]; rfl
        have hmatch1 := fun (W : World) (hB : Below w4.heap.size w4 W) => seg_first (c := k) (ao := some ⟨w.heap.size, 0, none⟩) hk hmk (fun _ => rfl) hx hy hrow4 hnx4 hB
        have hB04 : Below w.heap.size w w4 := q5.trans (hB4.mono (by omega))
        have a0 : w4.cell? ⟨G, 0, none⟩ = some (.pointer x2) := by rw [cell_at g1, ← hx2]; rfl
        have a1 : w4.cell? ⟨G, 1, none⟩ = some (.pointer y2) := by rw [cell_at g1, ← hy2]; rfl
        have HX : Hid (hdV G m k = .pointer x2 ∧ tlV G m k = .pointer y2) := ⟨hx2, hy2⟩
        have HN : Hid ((∀ j, j < k → w4.cell? ⟨w.heap.size, j, none⟩ = some (pt (G + 1 + j))) ∧ ∀ j, j < k → w4.cell? ⟨G + 1 + j, 2, none⟩ = some (nxV G m k j)) := ⟨hrow4, hnx4⟩
        clear hx hy hx2 hy2 q1 q2 q4 q5 g1 g2 hrow4 hnx4 htake hB4
        go_wp2_with (go_at_call 8; refine (hlen _).mono ?_; rintro e w' ⟨rfl, rfl⟩)
        go_region_held3 (fun w' => w'.cell? ⟨w4.heap.size, 0, none⟩ = some (.pointer x) ∧ w'.cell? ⟨w4.heap.size, 1, none⟩ = some (.pointer y) ∧ w'.cell? ⟨w4.heap.size, 2, none⟩ = some (.int .i64 (m : Int)))
          (first | exact ⟨(hB6.cell (p := ⟨w4.heap.size, 0, none⟩) (by simp)).trans (by simp), (hB6.cell (p := ⟨w4.heap.size, 1, none⟩) (by simp)).trans (by simp), (hB6.cell (p := ⟨w4.heap.size, 2, none⟩) (by simp)).trans (by simp)⟩ | go_keep)
          (first | (go_at_call 9; refine (hmatch1 _ (((Below.refl _ _).alloc (Nat.le_refl _) _).drew)).mono ?_; rintro e w6 ⟨rfl, hB6⟩))
        have hB46 : Below w4.heap.size w4 w6 := (((Below.refl _ _).alloc (Nat.le_refl _) _).drew).trans (hB6.mono (by simp))
        have d0 : w6.cell? ⟨G, 0, none⟩ = some (.pointer x2) := (hB46.cell (p := ⟨G, 0, none⟩) hGl).trans a0
        have d1 : w6.cell? ⟨G, 1, none⟩ = some (.pointer y2) := (hB46.cell (p := ⟨G, 1, none⟩) hGl).trans a1
        have d2 : w6.cell? ⟨G, 2, none⟩ = some (.int .i64 ((k : Int) - m)) := (hB46.cell (p := ⟨G, 2, none⟩) hGl).trans b2
        have hB06 : Below w.heap.size w w6 := hB04.trans (hB46.mono hB04.size)
        have hGl6 : G < w6.heap.size := by have := hB46.size; omega
        clear a0 a1 b2 b3 hB6 hlen hmatch1 hB04
        by_cases hkm : m = k
        · subst hkm
          have hmatch2 : ∀ (c : Nat) (W : World) (ao : Option Addr), Below w4.heap.size w4 W → Calls Yba.prog 9 #[.agg #[.pointer x2, .pointer y2, .int .i64 0], .slice ao 0 c] W fun e w' => e = .returned (.bool true) ∧ Below W.heap.size W w' := fun c W ao hB => by
            have := seg_rest (c := c) (ao := ao) hk hmk (fun h => by omega) HX.out.1 HX.out.2 HN.out.1 HN.out.2 hB
            rw [Nat.sub_self, Int.sub_self] at this; exact this
          rw [Int.sub_self] at d2
          go_wp2
          go_region_held3 (fun w' => w'.cell? ⟨G, 0, none⟩ = some (.pointer x2) ∧ w'.cell? ⟨G, 1, none⟩ = some (.pointer y2) ∧ w'.cell? ⟨G, 2, none⟩ = some (.int .i64 0))
            (first | exact ⟨(hB7.cell (p := ⟨G, 0, none⟩) hGl6).trans d0, (hB7.cell (p := ⟨G, 1, none⟩) hGl6).trans d1, (hB7.cell (p := ⟨G, 2, none⟩) hGl6).trans d2⟩ | go_keep)
            (first | (go_at_call 9; refine (hmatch2 _ _ _ hB46.drew).mono ?_; rintro e w7 ⟨rfl, hB7⟩))
          have hfin : Below w.heap.size w w7 := hB06.drew.trans (hB7.mono hB06.size)
          go_wp2
          go_ret
          exact ⟨rfl, hfin⟩
        · have hmatch2 : ∀ (c : Nat) (W : World), Below w4.heap.size w4 W → Calls Yba.prog 9 #[.agg #[.pointer x2, .pointer y2, .int .i64 ((k : Int) - m)], .slice (some ⟨w.heap.size, m, none⟩) (k - m) c] W fun e w' => e = .returned (.bool true) ∧ Below W.heap.size W w' := fun c W hB =>
            seg_rest (c := c) hk hmk (fun _ => rfl) HX.out.1 HX.out.2 HN.out.1 HN.out.2 hB
          have hkm2 : ¬ k = m := fun e => hkm e.symm
          have hlt2 : m < k := by omega
          go_wp2
          go_region_held3 (fun w' => w'.cell? ⟨G, 0, none⟩ = some (.pointer x2) ∧ w'.cell? ⟨G, 1, none⟩ = some (.pointer y2) ∧ w'.cell? ⟨G, 2, none⟩ = some (.int .i64 ((k : Int) - m)))
            (first | exact ⟨(hB7.cell (p := ⟨G, 0, none⟩) hGl6).trans d0, (hB7.cell (p := ⟨G, 1, none⟩) hGl6).trans d1, (hB7.cell (p := ⟨G, 2, none⟩) hGl6).trans d2⟩ | go_keep)
            (first | (go_at_call 9; refine (hmatch2 _ _ hB46.drew).mono ?_; rintro e w7 ⟨rfl, hB7⟩))
          have hfin : Below w.heap.size w w7 := hB06.drew.trans (hB7.mono hB06.size)
          go_wp2
          go_ret
          exact ⟨rfl, hfin⟩

end Go.Proofs.Ybulkbstw
