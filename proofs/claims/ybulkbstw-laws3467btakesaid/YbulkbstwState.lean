/-
  The law 'Take': the blocks of a global list, of a batch and of tasks, before and behind 'push' and 'pop'. No walk.
-/
import Derived.Test.YbulkbstwMatch
namespace Go.Proofs.Ybulkbstw
open Go.RowKit

def taskB (nx : Value) : Obj := .cells #[.nilFunc, .pointer none, nx, .pointer none] 37 (0, 0)
def listB (h t : Value) (n : Int) : Obj := .cells #[h, t, .int .i64 n] 25 (0, 0)
def globB (h t : Value) (n a : Int) : Obj := .cells #[h, t, .int .i64 n, .int .i64 a] 32 (0, 0)

theorem set_at {w : World} {b j : Nat} {u : Value} {cur : Array Value} {t : TypeId} (h : w.heap[b]? = some (.cells cur t (0, 0))) : (w.setCell ⟨b, j, none⟩ u).heap[b]? = some (.cells (cur.setIfInBounds j u) t (0, 0)) :=
  heap_setCell_same w b j cur t u h
theorem set_ne (w : World) {b b' : Nat} (j : Nat) (u : Value) (h : b' ≠ b) : (w.setCell ⟨b, j, none⟩ u).heap[b']? = w.heap[b']? := Below.heap_setCell _ _ _ _ h
theorem set_size (w : World) (a : Addr) (u : Value) : (w.setCell a u).heap.size = w.heap.size := by simp [World.setCell]

theorem cell_at {w : World} {b : Nat} {cur : Array Value} {t : TypeId} (h : w.heap[b]? = some (.cells cur t (0, 0))) (j : Nat) : w.cell? ⟨b, j, none⟩ = cur[j]? := by simp [World.cell?, h]
theorem free_at {w : World} {b : Nat} {cur : Array Value} {t : TypeId} (h : w.heap[b]? = some (.cells cur t (0, 0))) (j : Nat) : w.frozen? ⟨b, j, none⟩ = false := by simp [World.frozen?, h]

/-! ### push -/
theorem push_size (w : World) (L : Nat) (c : Option Nat) (p : Value) (n : Int) : (pushW w L c p n).heap.size = w.heap.size := by
  cases c <;> simp [pushW, World.setCell]
theorem push_other (w : World) (L : Nat) (c : Option Nat) (p : Value) (n : Int) (b : Nat) (hL : b ≠ L) (hc : ∀ x, c = some x → b ≠ x) : (pushW w L c p n).heap[b]? = w.heap[b]? := by
  cases c with
  | none => unfold pushW; rw [set_ne _ _ _ hL, set_ne _ _ _ hL, set_ne _ _ _ hL]
  | some x => unfold pushW; rw [set_ne _ _ _ hL, set_ne _ _ _ hL, set_ne _ _ _ (hc x rfl)]
theorem push_below {B : Nat} {a w : World} {L : Nat} {c : Option Nat} {p : Value} {n : Int} (h : Below B a w) (hL : B ≤ L) (hc : ∀ x, c = some x → B ≤ x) : Below B a (pushW w L c p n) := by
  cases c with
  | none => exact ((h.setCell hL _).setCell hL _).setCell hL _
  | some x => exact ((h.setCell (p := ⟨x, 2, none⟩) (hc x rfl) _).setCell hL _).setCell hL _
theorem push_glob0 {w : World} {L : Nat} {h t p : Value} {m n a : Int} (hb : w.heap[L]? = some (globB h t m a)) : (pushW w L none p n).heap[L]? = some (globB p p (n + 1) a) :=
  set_at (set_at (set_at hb))
theorem push_glob {w : World} {L c : Nat} {h t p : Value} {m n a : Int} (hne : L ≠ c) (hb : w.heap[L]? = some (globB h t m a)) : (pushW w L (some c) p n).heap[L]? = some (globB h p (n + 1) a) :=
  set_at (set_at ((set_ne _ _ _ hne).trans hb))
theorem push_list0 {w : World} {L : Nat} {h t p : Value} {m n : Int} (hb : w.heap[L]? = some (listB h t m)) : (pushW w L none p n).heap[L]? = some (listB p p (n + 1)) :=
  set_at (set_at (set_at hb))
theorem push_list {w : World} {L c : Nat} {h t p : Value} {m n : Int} (hne : L ≠ c) (hb : w.heap[L]? = some (listB h t m)) : (pushW w L (some c) p n).heap[L]? = some (listB h p (n + 1)) :=
  set_at (set_at ((set_ne _ _ _ hne).trans hb))
theorem push_task {w : World} {L c : Nat} {x p : Value} {n : Int} (hne : L ≠ c) (hb : w.heap[c]? = some (taskB x)) : (pushW w L (some c) p n).heap[c]? = some (taskB p) := by
  unfold pushW
  rw [set_ne _ _ _ hne.symm, set_ne _ _ _ hne.symm]
  exact set_at hb

/-! ### pop -/
theorem pop_size (w : World) (L c : Nat) (d : Option Nat) (n : Int) : (popW w L c d n).heap.size = w.heap.size := by
  cases d <;> simp [popW, World.setCell]
theorem pop_other (w : World) (L c : Nat) (d : Option Nat) (n : Int) (b : Nat) (hL : b ≠ L) (hc : b ≠ c) : (popW w L c d n).heap[b]? = w.heap[b]? := by
  cases d with
  | none => unfold popW; rw [set_ne _ _ _ hL, set_ne _ _ _ hc, set_ne _ _ _ hL, set_ne _ _ _ hL]
  | some x => unfold popW; rw [set_ne _ _ _ hL, set_ne _ _ _ hc, set_ne _ _ _ hL]
theorem pop_below {B : Nat} {a w : World} {L c : Nat} {d : Option Nat} {n : Int} (h : Below B a w) (hL : B ≤ L) (hc : B ≤ c) : Below B a (popW w L c d n) := by
  cases d with
  | none => exact (((h.setCell hL _).setCell hL _).setCell (p := ⟨c, 2, none⟩) hc _).setCell hL _
  | some x => exact ((h.setCell hL _).setCell (p := ⟨c, 2, none⟩) hc _).setCell hL _
theorem pop_glob0 {w : World} {L c : Nat} {h t : Value} {m n a : Int} (hne : L ≠ c) (hb : w.heap[L]? = some (globB h t m a)) : (popW w L c none n).heap[L]? = some (globB (.pointer none) (.pointer none) (n - 1) a) :=
  set_at ((set_ne _ _ _ hne).trans (set_at (set_at hb)))
theorem pop_glob {w : World} {L c d : Nat} {h t : Value} {m n a : Int} (hne : L ≠ c) (hb : w.heap[L]? = some (globB h t m a)) : (popW w L c (some d) n).heap[L]? = some (globB (pt d) t (n - 1) a) :=
  set_at ((set_ne _ _ _ hne).trans (set_at hb))
theorem pop_task {w : World} {L c : Nat} {d : Option Nat} {x : Value} {n : Int} (hne : L ≠ c) (hb : w.heap[c]? = some (taskB x)) : (popW w L c d n).heap[c]? = some (taskB (.pointer none)) := by
  cases d with
  | none => unfold popW; rw [set_ne _ _ _ hne.symm]; exact set_at ((set_ne _ _ _ hne.symm).trans ((set_ne _ _ _ hne.symm).trans hb))
  | some d => unfold popW; rw [set_ne _ _ _ hne.symm]; exact set_at ((set_ne _ _ _ hne.symm).trans hb)

/-! ### the chain: task j lies in block G + 1 + j -/
def hdV (G lo hi : Nat) : Value := if lo < hi then pt (G + 1 + lo) else .pointer none
def tlV (G lo hi : Nat) : Value := if lo < hi then pt (G + 1 + (hi - 1)) else .pointer none
/-- The link of task j where the first i tasks are one list and those from i to k another. -/
def nxV (G i k j : Nat) : Value := if j + 1 = i ∨ j + 1 = k then .pointer none else pt (G + 1 + (j + 1))

/-- After i rounds of the loop that makes the tasks. -/
structure Bld (w : World) (G k i : Nat) (xs : List Value) (wr : World) : Prop where
  row : wr.ownsRow w.heap.size 23 1 (.slice (some ⟨w.heap.size, 0, none⟩) k k) k xs
  els : ∀ j, j < i → xs[j]? = some (pt (G + 1 + j))
  glob : wr.heap[G]? = some (globB (hdV G 0 i) (tlV G 0 i) i 0)
  tasks : ∀ j, j < i → wr.heap[G + 1 + j]? = some (taskB (nxV G 0 i j))
  size : wr.heap.size = G + 1 + i
  bel : Below w.heap.size w wr
  gt : w.heap.size < G

theorem Bld.start {w w1 : World} {k : Nat} {xs : List Value} (hown : w1.ownsRow w.heap.size 23 1 (.slice (some ⟨w.heap.size, 0, none⟩) k k) k xs) (hb : Below w.heap.size w w1) :
    Bld w w1.heap.size k 0 xs (w1.alloc (globB (.pointer none) (.pointer none) 0 0)) :=
  ⟨hown.alloc _, fun _ h => by omega, heap_alloc_new _ _, fun _ h => by omega, by simp, hb.alloc hb.size _, (hown.lt w.heap.size rfl).2⟩

/-- The world in which 'push' is called: the new task lies in the heap's last block, and in the row. -/
theorem Bld.mid {w wr : World} {G k i : Nat} {xs : List Value} (h : Bld w G k i xs wr) {W : World} (hW : W = (wr.setCell ⟨w.heap.size, i, none⟩ (pt (G + 1 + i))).alloc (taskB (.pointer none))) :
    W.ownsRow w.heap.size 23 1 (.slice (some ⟨w.heap.size, 0, none⟩) k k) k (xs.set i (pt (G + 1 + i))) ∧ W.heap[G]? = some (globB (hdV G 0 i) (tlV G 0 i) i 0) ∧ (∀ j, j < i → W.heap[G + 1 + j]? = some (taskB (nxV G 0 i j))) ∧
      W.heap[G + 1 + i]? = some (taskB (.pointer none)) ∧ W.heap.size = G + 1 + (i + 1) ∧ Below w.heap.size w W := by
  have hs := h.size
  have hg := h.gt
  have hsz : (wr.setCell ⟨w.heap.size, i, none⟩ (pt (G + 1 + i))).heap.size = G + 1 + i := by rw [set_size]; exact hs
  subst hW
  refine ⟨((h.row.stored i _).1).alloc _, ?_, fun j hj => ?_, ?_, by simp [hsz]; omega, (h.bel.setCell (p := ⟨w.heap.size, i, none⟩) (Nat.le_refl _) _).alloc (by rw [hsz]; omega) _⟩
  · rw [Below.heap_alloc _ _ _ (by rw [hsz]; omega), set_ne _ _ _ (by omega)]; exact h.glob
  · rw [Below.heap_alloc _ _ _ (by rw [hsz]; omega), set_ne _ _ _ (by omega)]; exact h.tasks j hj
  · have := heap_alloc_new (wr.setCell ⟨w.heap.size, i, none⟩ (pt (G + 1 + i))) (taskB (.pointer none))
    rw [hsz] at this; exact this

theorem Bld.step {w wr : World} {G k i : Nat} {xs : List Value} (h : Bld w G k i xs wr) (hi : i < k) {W : World} (hW : W = (wr.setCell ⟨w.heap.size, i, none⟩ (pt (G + 1 + i))).alloc (taskB (.pointer none)))
    {c : Option Nat} (hc : c = if i = 0 then none else some (G + 1 + (i - 1))) : Bld w G k (i + 1) (xs.set i (pt (G + 1 + i))) (pushW W G c (pt (G + 1 + i)) i) := by
  obtain ⟨m1, m2, m3, m4, m5, m6⟩ := h.mid hW
  have hg := h.gt
  have hl : xs.length = k := by have := h.row.1; omega
  have hcG : ∀ x, c = some x → G + 1 ≤ x ∧ x < G + 1 + i := fun x hx => by
    rw [hc] at hx; split at hx
    · cases hx
    · cases hx; omega
  have hrow : (pushW W G c (pt (G + 1 + i)) i).heap[w.heap.size]? = W.heap[w.heap.size]? := push_other _ _ _ _ _ _ (by omega) (fun x hx => by have := hcG x hx; omega)
  refine ⟨⟨m1.1, ?_⟩, fun j hj => ?_, ?_, fun j hj => ?_, by rw [push_size]; exact m5, push_below m6 (by omega) (fun x hx => by have := hcG x hx; omega), hg⟩
  · rcases m1.2 with m | ⟨g, cap, cur, hv, hb, hh, r⟩
    · exact .inl m
    · refine .inr ⟨g, cap, cur, hv, hb, ?_, r⟩
      simp only [Value.slice.injEq, Option.some.injEq, Addr.mk.injEq] at hv
      obtain ⟨⟨rfl, _⟩, _⟩ := hv
      rw [hrow]; exact hh
  · by_cases e : j = i
    · subst e; simp [hl, hi]
    · rw [List.getElem?_set_ne (by omega)]; exact h.els j (by omega)
  · by_cases e : i = 0
    · rw [if_pos e] at hc; subst hc; subst e
      have := push_glob0 (p := pt (G + 1 + 0)) (n := (0 : Nat)) m2
      simpa [hdV, tlV] using this
    · rw [if_neg e] at hc; subst hc
      have := push_glob (c := G + 1 + (i - 1)) (p := pt (G + 1 + i)) (n := (i : Int)) (by omega) m2
      rw [this]
      have e1 : hdV G 0 (i + 1) = hdV G 0 i := by unfold hdV; rw [if_pos (by omega), if_pos (by omega)]
      have e2 : tlV G 0 (i + 1) = pt (G + 1 + i) := by unfold tlV; rw [if_pos (by omega)]; rfl
      rw [e1, e2]; rfl
  · by_cases ej : j = i
    · subst ej
      rw [push_other _ _ _ _ _ _ (by omega) (fun x hx => by have := hcG x hx; omega), m4]
      unfold nxV; rw [if_pos (by omega)]
    · by_cases e : j + 1 = i
      · have e0 : ¬ i = 0 := by omega
        rw [if_neg e0] at hc; subst hc
        have hji : G + 1 + (i - 1) = G + 1 + j := by omega
        rw [hji]
        rw [push_task (by omega) (m3 j (by omega))]
        unfold nxV
        rw [if_neg (by omega), ← e]
      · rw [push_other _ _ _ _ _ _ (by omega) (fun x hx => ?_), m3 j (by omega)]
        · unfold nxV; rw [if_neg (by omega), if_neg (by omega)]
        · rw [hc] at hx; split at hx
          · cases hx
          · cases hx; omega

/-- After i rounds of 'take': the first i tasks lie in the batch, the others in the global list. -/
structure Tk (w0 : World) (G R k i : Nat) (wr : World) : Prop where
  glob : wr.heap[G]? = some (globB (hdV G i k) (tlV G i k) ((k : Int) - i) k)
  batch : wr.heap[R + 1]? = some (listB (hdV G 0 i) (tlV G 0 i) i)
  tasks : ∀ j, j < k → wr.heap[G + 1 + j]? = some (taskB (nxV G i k j))
  res : wr.heap[R]? = some (listB (.pointer none) (.pointer none) 0)
  size : wr.heap.size = w0.heap.size
  bel : Below G w0 wr
  gt : G + 1 + k ≤ R
  lt : R + 1 < w0.heap.size

theorem Tk.start {w : World} {G k : Nat} (hg : w.heap[G]? = some (globB (hdV G 0 k) (tlV G 0 k) k k)) (ht : ∀ j, j < k → w.heap[G + 1 + j]? = some (taskB (nxV G 0 k j))) (hs : G + 1 + k ≤ w.heap.size) :
    Tk ((w.alloc (listB (.pointer none) (.pointer none) 0)).alloc (listB (.pointer none) (.pointer none) 0)) G w.heap.size k 0 ((w.alloc (listB (.pointer none) (.pointer none) 0)).alloc (listB (.pointer none) (.pointer none) 0)) := by
  refine ⟨?_, ?_, fun j hj => ?_, ?_, rfl, Below.refl _ _, hs, by simp⟩
  · rw [Below.heap_alloc _ _ _ (by simp; omega), Below.heap_alloc _ _ _ (by omega), hg]; simp
  · have := heap_alloc_new (w.alloc (listB (.pointer none) (.pointer none) 0)) (listB (.pointer none) (.pointer none) 0)
    simpa [hdV, tlV] using this
  · rw [Below.heap_alloc _ _ _ (by simp; omega), Below.heap_alloc _ _ _ (by omega)]; exact ht j hj
  · rw [Below.heap_alloc _ _ _ (by simp)]; exact heap_alloc_new _ _

/-- The task that follows place i, by its block. -/
def nextOf (G k i : Nat) : Option Nat := if i + 1 = k then none else some (G + 1 + (i + 1))
/-- The batch's last task after i rounds. -/
def lastOf (G i : Nat) : Option Nat := if i = 0 then none else some (G + 1 + (i - 1))

theorem lastOf_some {G i x : Nat} (h : lastOf G i = some x) : 0 < i ∧ x = G + 1 + (i - 1) := by
  unfold lastOf at h; split at h
  · cases h
  · cases h; exact ⟨by omega, rfl⟩

/-- Behind the pop of task i. -/
theorem Tk.popped {w0 wr : World} {G R k i : Nat} (h : Tk w0 G R k i wr) (hi : i < k) {w1 : World} (hw : w1 = popW wr G (G + 1 + i) (nextOf G k i) ((k : Int) - i)) :
    w1.heap[G]? = some (globB (hdV G (i + 1) k) (tlV G (i + 1) k) ((k : Int) - i - 1) k) ∧ w1.heap[R + 1]? = some (listB (hdV G 0 i) (tlV G 0 i) i) ∧ (∀ j, j < k → j ≠ i → w1.heap[G + 1 + j]? = some (taskB (nxV G i k j))) ∧
      w1.heap[G + 1 + i]? = some (taskB (.pointer none)) ∧ w1.heap[R]? = some (listB (.pointer none) (.pointer none) 0) ∧ w1.heap.size = w0.heap.size ∧ Below G w0 w1 := by
  have hgt := h.gt
  subst hw
  refine ⟨?_, ?_, fun j hj hne => ?_, ?_, ?_, by rw [pop_size]; exact h.size, pop_below h.bel (Nat.le_refl _) (by omega)⟩
  · by_cases e : i + 1 = k
    · have hd : nextOf G k i = none := by simp [nextOf, e]
      rw [hd, pop_glob0 (by omega) h.glob]
      have e1 : hdV G (i + 1) k = .pointer none := by unfold hdV; rw [if_neg (by omega)]
      have e2 : tlV G (i + 1) k = .pointer none := by unfold tlV; rw [if_neg (by omega)]
      rw [e1, e2]
    · have hd : nextOf G k i = some (G + 1 + (i + 1)) := by simp [nextOf, e]
      rw [hd, pop_glob (by omega) h.glob]
      have e1 : hdV G (i + 1) k = pt (G + 1 + (i + 1)) := by unfold hdV; rw [if_pos (by omega)]
      have e2 : tlV G (i + 1) k = tlV G i k := by unfold tlV; rw [if_pos (by omega), if_pos (by omega)]
      rw [e1, e2]
  · rw [pop_other _ _ _ _ _ _ (by omega) (by omega)]; exact h.batch
  · rw [pop_other _ _ _ _ _ _ (by omega) (by omega)]; exact h.tasks j hj
  · exact pop_task (by omega) (h.tasks i hi)
  · rw [pop_other _ _ _ _ _ _ (by omega) (by omega)]; exact h.res

theorem Tk.step {w0 wr : World} {G R k i : Nat} (h : Tk w0 G R k i wr) (hi : i < k) {w1 w2 : World} (hw : w1 = popW wr G (G + 1 + i) (nextOf G k i) ((k : Int) - i))
    (hw2 : w2 = pushW w1 (R + 1) (lastOf G i) (pt (G + 1 + i)) i) : Tk w0 G R k (i + 1) w2 := by
  have hgt := h.gt
  obtain ⟨p1, p2, p3, p4, p5, p6, p7⟩ := h.popped hi hw
  have hlast : ∀ x, lastOf G i = some x → G + 1 ≤ x ∧ x < G + 1 + i := fun x hx => by have := lastOf_some hx; omega
  subst hw2
  refine ⟨?_, ?_, fun j hj => ?_, ?_, by rw [push_size]; exact p6, push_below p7 (by omega) (fun x hx => by have := hlast x hx; omega), hgt, h.lt⟩
  · rw [push_other _ _ _ _ _ _ (by omega) (fun x hx => by have := hlast x hx; omega), p1]
    have : (k : Int) - i - 1 = (k : Int) - ((i + 1 : Nat) : Int) := by omega
    rw [this]
  · by_cases e : i = 0
    · have hl : lastOf G i = none := by simp [lastOf, e]
      subst e
      rw [hl, push_list0 p2]
      simp [hdV, tlV]
    · have hl : lastOf G i = some (G + 1 + (i - 1)) := by simp [lastOf, e]
      rw [hl, push_list (by omega) p2]
      have e1 : hdV G 0 (i + 1) = hdV G 0 i := by unfold hdV; rw [if_pos (by omega), if_pos (by omega)]
      have e2 : tlV G 0 (i + 1) = pt (G + 1 + i) := by unfold tlV; rw [if_pos (by omega)]; rfl
      rw [e1, e2]; rfl
  · by_cases ej : j = i
    · subst ej
      rw [push_other _ _ _ _ _ _ (by omega) (fun x hx => by have := hlast x hx; omega), p4]
      unfold nxV; rw [if_pos (by omega)]
    · by_cases e : j + 1 = i
      · have hl : lastOf G i = some (G + 1 + j) := by unfold lastOf; rw [if_neg (by omega)]; congr 1; omega
        rw [hl, push_task (by omega) (p3 j hj ej)]
        unfold nxV
        rw [if_neg (by omega), ← e]
      · rw [push_other _ _ _ _ _ _ (by omega) (fun x hx => by have := lastOf_some hx; omega), p3 j hj ej]
        unfold nxV
        by_cases e2 : j + 1 = k
        · rw [if_pos (by omega), if_pos (by omega)]
        · rw [if_neg (by omega), if_neg (by omega)]
  · rw [push_other _ _ _ _ _ _ (by omega) (fun x hx => by have := hlast x hx; omega)]; exact p5

end Go.Proofs.Ybulkbstw
