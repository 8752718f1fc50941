/-
  'take' by its contract.
-/
import Derived.Test.YbulkbstwState
import Derived.Deep.RegionHeld3
namespace Go.Proofs.Ybulkbstw
open Go.RowKit

theorem tk_pop {w0 wr : World} {G R k i : Nat} (h : Tk w0 G R k i wr) (hi : i < k) (hk : k ≤ 1024) :
    Calls Yba.prog 18 #[.pointer (some ⟨G, 0, none⟩)] wr fun e w' => e = .returned (pt (G + 1 + i)) ∧ Hid (w' = popW wr G (G + 1 + i) (nextOf G k i) ((k : Int) - i)) := by
  have hh : hdV G i k = pt (G + 1 + i) := by unfold hdV; rw [if_pos hi]
  have c0 : wr.cell? ⟨G, 0, none⟩ = some (pt (G + 1 + i)) := by rw [cell_at h.glob, ← hh]; rfl
  have c1 : wr.cell? ⟨G, 1, none⟩ = some (tlV G i k) := by rw [cell_at h.glob]; rfl
  have c2 : wr.cell? ⟨G, 2, none⟩ = some (.int .i64 ((k : Int) - i)) := by rw [cell_at h.glob]; rfl
  by_cases e : i + 1 = k
  · have hd : nextOf G k i = none := by simp [nextOf, e]
    have d2 : wr.cell? ⟨G + 1 + i, 2, none⟩ = some (.pointer none) := by rw [cell_at (h.tasks i hi)]; unfold nxV; rw [if_pos (.inr e)]; rfl
    rw [hd]
    exact pop_last G (G + 1 + i) _ _ wr (by omega) (by omega) (by omega) c0 c1 c2 (free_at h.glob) d2 (free_at (h.tasks i hi) 2)
  · have hd : nextOf G k i = some (G + 1 + (i + 1)) := by simp [nextOf, e]
    have d2 : wr.cell? ⟨G + 1 + i, 2, none⟩ = some (pt (G + 1 + (i + 1))) := by rw [cell_at (h.tasks i hi)]; unfold nxV; rw [if_neg (by omega)]; rfl
    rw [hd]
    exact pop_more G (G + 1 + i) _ _ wr (by omega) (by omega) (by omega) c0 c2 (free_at h.glob) d2 (free_at (h.tasks i hi) 2)

theorem tk_push {w0 wr w1 : World} {G R k i : Nat} (h : Tk w0 G R k i wr) (hi : i < k) (hk : k ≤ 1024) (hw : Hid (w1 = popW wr G (G + 1 + i) (nextOf G k i) ((k : Int) - i))) :
    Calls Yba.prog 5 #[.pointer (some ⟨R + 1, 0, none⟩), pt (G + 1 + i)] w1 fun e w' => e = .returned (.tuple #[]) ∧ Hid (w' = pushW w1 (R + 1) (lastOf G i) (pt (G + 1 + i)) i) := by
  obtain ⟨p1, p2, p3, p4, p5, p6, p7⟩ := h.popped hi hw.out
  have hgt := h.gt
  have c0 : w1.cell? ⟨R + 1, 0, none⟩ = some (hdV G 0 i) := by rw [cell_at p2]; rfl
  have c2 : w1.cell? ⟨R + 1, 2, none⟩ = some (.int .i64 (i : Int)) := by rw [cell_at p2]; rfl
  by_cases e : i = 0
  · have hl : lastOf G i = none := by simp [lastOf, e]
    have c1 : w1.cell? ⟨R + 1, 1, none⟩ = some (.pointer none) := by
      have ht : tlV G 0 i = .pointer none := by unfold tlV; rw [if_neg (by omega)]
      rw [cell_at p2, ← ht]; rfl
    rw [hl]
    exact push_empty (R + 1) (G + 1 + i) _ _ w1 (by omega) (by omega) c0 c1 c2 (free_at p2)
  · have hl : lastOf G i = some (G + 1 + (i - 1)) := by simp [lastOf, e]
    have c1 : w1.cell? ⟨R + 1, 1, none⟩ = some (pt (G + 1 + (i - 1))) := by
      have ht : tlV G 0 i = pt (G + 1 + (i - 1)) := by unfold tlV; rw [if_pos (by omega)]
      rw [cell_at p2, ← ht]; rfl
    have hb := p3 (i - 1) (by omega) (by omega)
    rw [hl]
    exact push_more (R + 1) (G + 1 + i) (G + 1 + (i - 1)) _ _ w1 (by omega) (by omega) (by omega) c1 c2 (free_at p2) (by rw [cell_at hb]; rfl) (free_at hb 2)

theorem hdV_ptr (G lo hi : Nat) : ∃ x : Option Addr, hdV G lo hi = .pointer x := by unfold hdV pt; split <;> exact ⟨_, rfl⟩
theorem tlV_ptr (G lo hi : Nat) : ∃ x : Option Addr, tlV G lo hi = .pointer x := by unfold tlV pt; split <;> exact ⟨_, rfl⟩

set_option maxHeartbeats 1600000 in
set_option maxRecDepth 100000 in
theorem take_any (G k m : Nat) (a : Int) (w : World) (hk : k ≤ 1024) (hm : m ≤ k) (ha : a = m ∨ (a < 0 ∧ m = 0))
    (hg : w.heap[G]? = some (globB (hdV G 0 k) (tlV G 0 k) k k)) (ht : ∀ j, j < k → w.heap[G + 1 + j]? = some (taskB (nxV G 0 k j))) (hs : G + 1 + k ≤ w.heap.size) :
    Calls Yba.prog 7 #[.pointer (some ⟨G, 0, none⟩), .int .i64 a] w fun e w' =>
      e = .returned (.agg #[hdV G 0 m, tlV G 0 m, .int .i64 (m : Int)]) ∧ w'.heap[G]? = some (globB (hdV G m k) (tlV G m k) ((k : Int) - m) ((k : Int) - m)) ∧ (∀ j, j < k → w'.heap[G + 1 + j]? = some (taskB (nxV G m k j))) ∧ Below G w w' := by
  have R0 := Tk.start hg ht hs
  have HA : Hid (a = m ∨ (a < 0 ∧ m = 0)) := ha
  clear hg ht ha
  go_enter Yba.func7, Yba.ntmps7
  go_wp2
  go_loopw [7] (fun c wr => ∃ i : Nat, i ≤ m ∧ c = .int .i64 i ∧ Tk ((w.alloc (listB (.pointer none) (.pointer none) 0)).alloc (listB (.pointer none) (.pointer none) 0)) G w.heap.size k i wr) (fun c _ => m - (intOf c).toNat)
  case atStart => exact ⟨0, Nat.zero_le _, rfl, R0⟩
  case round =>
    obtain ⟨i, hi, rfl, hT⟩ := hrel
    clear R0
    by_cases hlt : i < m
    · have hia : (i : Int) < a := by have := HA.out; omega
      have hpop := tk_pop hT (by omega) hk
      have hpush := fun w1 hw => tk_push (w1 := w1) hT (by omega) hk hw
      unfold pt at hpop hpush
      go_wp2_with (first | (go_at_call 18; refine hpop.mono ?_; rintro e w1 ⟨rfl, hw1⟩) | (go_at_call 5; refine (hpush w1 hw1).mono ?_; rintro e w2 ⟨rfl, hw2⟩))
      have R := hT.step (by omega) hw1.out hw2.out
      go_roundw
      case rel => exact ⟨i + 1, by omega, by go_num, R⟩
      case measure => simp [intOf]; omega
    · obtain rfl : i = m := by omega
      have hia : ¬ (i : Int) < a := by have := HA.out; omega
      have hgt := hT.gt
      have c2 : wr.cell? ⟨G, 2, none⟩ = some (.int .i64 ((k : Int) - i)) := by rw [cell_at hT.glob]; rfl
      have c3 : wr.cell? ⟨G, 3, none⟩ = some (.int .i64 (k : Int)) := by rw [cell_at hT.glob]; rfl
      have f3 : wr.frozen? ⟨G, 3, none⟩ = false := free_at hT.glob 3
      go_wp2
      have hkeep : (wr.setCell ⟨G, 3, none⟩ (.int .i64 ((k : Int) - i))).drew.cell? ⟨G, 2, none⟩ = some (.int .i64 ((k : Int) - i)) := by
        show (wr.setCell ⟨G, 3, none⟩ (.int .i64 ((k : Int) - i))).cell? ⟨G, 2, none⟩ = _
        rw [World.cell?_setCell_other _ _ _ _ (by simp)]; exact c2
      go_region_held3 (fun w' => w'.cell? ⟨G, 2, none⟩ = some (.int .i64 ((k : Int) - i))) (first | exact hkeep | go_keep)
        (first | (go_at_call 6; refine (store_any G (k : Int) ((k : Int) - i) _ ?_ ?_).mono ?_; (simp [*]); (simp [*]); rintro e w' ⟨rfl, rfl⟩))
      obtain ⟨x, hx⟩ := hdV_ptr G 0 i
      obtain ⟨y, hy⟩ := tlV_ptr G 0 i
      have b0 : wr.cell? ⟨w.heap.size + 1, 0, none⟩ = some (.pointer x) := by rw [cell_at hT.batch, ← hx]; rfl
      have b1 : wr.cell? ⟨w.heap.size + 1, 1, none⟩ = some (.pointer y) := by rw [cell_at hT.batch, ← hy]; rfl
      have b2 : wr.cell? ⟨w.heap.size + 1, 2, none⟩ = some (.int .i64 (i : Int)) := by rw [cell_at hT.batch]; rfl
      have r0 : wr.cell? ⟨w.heap.size, 0, none⟩ = some (.pointer none) := by rw [cell_at hT.res]; rfl
      have r1 : wr.cell? ⟨w.heap.size, 1, none⟩ = some (.pointer none) := by rw [cell_at hT.res]; rfl
      have r2 : wr.cell? ⟨w.heap.size, 2, none⟩ = some (.int .i64 0) := by rw [cell_at hT.res]; rfl
      have rf : ∀ j, wr.frozen? ⟨w.heap.size, j, none⟩ = false := free_at hT.res
      have hne1 : ¬ G = w.heap.size + 1 := by omega
      have hne2 : ¬ G = w.heap.size := by omega
      have HX : Hid (hdV G 0 i = .pointer x) := hx
      have HY : Hid (tlV G 0 i = .pointer y) := hy
      clear hx hy c2 c3 f3 hkeep
      go_wp2
      refine bodyPost_ret (v := .agg #[.pointer x, .pointer y, .int .i64 (i : Int)]) (by simp [results, Yba.results7, go_sem, r0, r1, r2]) rfl ⟨by rw [HX.out, HY.out], ?_, fun j hj => ?_, ?_⟩
      · show ((((wr.setCell ⟨G, 3, none⟩ _).setCell ⟨w.heap.size, 0, none⟩ _).setCell ⟨w.heap.size, 1, none⟩ _).setCell ⟨w.heap.size, 2, none⟩ _).heap[G]? = _
        rw [set_ne _ _ _ hne2, set_ne _ _ _ hne2, set_ne _ _ _ hne2]
        exact set_at hT.glob
      · show ((((wr.setCell ⟨G, 3, none⟩ _).setCell ⟨w.heap.size, 0, none⟩ _).setCell ⟨w.heap.size, 1, none⟩ _).setCell ⟨w.heap.size, 2, none⟩ _).heap[G + 1 + j]? = _
        rw [set_ne _ _ _ (by omega), set_ne _ _ _ (by omega), set_ne _ _ _ (by omega), set_ne _ _ _ (by omega)]
        exact hT.tasks j hj
      · have b1 : Below G w ((w.alloc (listB (.pointer none) (.pointer none) 0)).alloc (listB (.pointer none) (.pointer none) 0)) := ((Below.refl _ _).alloc (by omega) _).alloc (by simp; omega) _
        exact (((((b1.trans hT.bel).setCell (p := ⟨G, 3, none⟩) (Nat.le_refl _) _).setCell (p := ⟨w.heap.size, 0, none⟩) (by show G ≤ w.heap.size; omega) _).setCell (p := ⟨w.heap.size, 1, none⟩) (by show G ≤ w.heap.size; omega) _).setCell (p := ⟨w.heap.size, 2, none⟩) (by show G ≤ w.heap.size; omega) _).drew

end Go.Proofs.Ybulkbstw
