/-
  The closures of the two laws over the file-order iterator, each by its contract.
-/
import Derived.Test.YbulkbsmwRows
import Derived.WalkKit
namespace Go.Proofs.Ybulkbsmw
open Go.RowKit

theorem Yba.info3 : (Yba.prog.info? 3).map (fun i => (i.zero, i.size, i.bytes)) = some (some (.int .i64 0), 1, 8) := by kernel_rfl

/-- The numbers 0, 1, .., n-1 as the log holds them. -/
def upto (n : Nat) : List Value := (List.range n).map (fun i : Nat => Value.int .i64 (i : Int))

theorem upto_succ (n : Nat) : upto (n + 1) = upto n ++ [Value.int .i64 (n : Int)] := by
  simp [upto, List.range_succ]

/-- The log's block L holds the slice v, which owns the numbers below n; the block behind it and all below L is as it was. -/
structure Inv (L : Nat) (w wr : World) (v : Value) (n : Nat) : Prop where
  log : wr.heap[L]? = some (.cells #[v] 38 (0, 0))
  own : wr.ownsRow (L + 2) 3 1 v n (upto n)
  bel : Below L w wr
  box : wr.heap[L + 1]? = w.heap[L + 1]?
  room : L + 2 ≤ wr.heap.size

theorem Inv.step {L n : Nat} {w wr w1 : World} {v v' : Value} {o : Obj} (h : Inv L w wr v n)
    (hown : w1.ownsRow (L + 2) 3 1 v' (n + 1) (upto n ++ [.int .i64 (n : Int)])) (hgrow : (wr.alloc o).grownBy w1 v.ownBlock) :
    Inv L w (w1.setCell ⟨L, 0, none⟩ v') v' (n + 1) ∧ w1.cell? ⟨L, 0, none⟩ = some v ∧ w1.frozen? ⟨L, 0, none⟩ = false := by
  have hr := h.room
  have hne : ∀ j, j < L + 2 → some j ≠ v.ownBlock := fun j hj e => by have := h.own.lt j e.symm; omega
  have hb : ∀ j, j < L + 2 → w1.heap[j]? = wr.heap[j]? := fun j hj =>
    (hgrow.block j (by simp; omega) (hne j hj)).trans (Below.heap_alloc _ _ _ (by omega))
  have hl : w1.heap[L]? = some (.cells #[v] 38 (0, 0)) := (hb L (by omega)).trans h.log
  have hbel : Below L w w1 := (h.bel.alloc (by omega) o).grown hgrow (by simp; omega) (fun j hj => by have := (h.own.lt j hj).1; omega)
  refine ⟨⟨one_setCell hl, ?_, hbel.setCell (Nat.le_refl _) _, ?_, ?_⟩, cell_of_one hl, free_of_one hl⟩
  · rw [upto_succ]; exact ownsRow_setCell_below hown (by show L < L + 2; omega) _
  · rw [Below.heap_setCell _ _ _ _ (by show L + 1 ≠ L; omega), hb (L + 1) (by omega)]; exact h.box
  · have := hgrow.size; simp [World.setCell] at this ⊢; omega

theorem own_shape {w : World} {base n : Nat} {v : Value} {xs : List Value} (h : w.ownsRow base 3 1 v (n + 1) xs) : ∃ g cap, v = .slice (some ⟨g, 0, none⟩) (n + 1) cap := by
  rcases h.2 with ⟨_, h0⟩ | ⟨g, cap, cur, hv, _⟩
  · omega
  · exact ⟨g, cap, hv⟩

set_option maxHeartbeats 800000 in
set_option maxRecDepth 100000 in
theorem yieldS_any (L K n : Nat) (k : Int) (w wr : World) (v : Value) (hn : n ≤ 1024) (hK : K < L) (hk : w.cell? ⟨K, 0, none⟩ = some (.int .i64 k)) (h : Inv L w wr v n) :
    Calls Yba.prog 11 #[.int .i64 (n : Int), .pointer (some ⟨L, 0, none⟩), .pointer (some ⟨K, 0, none⟩)] wr fun e w' =>
      ∃ v', e = .returned (.bool ((n : Int) + 1 != k)) ∧ Inv L w w' v' (n + 1) := by
  obtain ⟨i0, hi, hz0, hz1, hz2⟩ := info_parts Yba.info3
  have hc : wr.cell? ⟨L, 0, none⟩ = some v := cell_of_one h.log
  have hown := h.own
  have hroom := h.room
  go_enter Yba.func11, Yba.ntmps11
  go_wp2_with (at_builtin; refine wpList_append_own _ rfl _ _ 38 rfl (L + 2) 3 i0 (.int .i64 0) 1 8 Yba.underlying38 hi hz0 hz1 hz2 rfl (by decide) _ _ _ rfl (hown.alloc _) ⟨wr.heap.size, 0, none⟩ 1 1 [.int .i64 (n : Int)] rfl rfl ?c1 ?c2 ?c3 ?c4 ?c5 ?_)
  case c1 =>
    intro j u hj
    match j, hj with
    | 0, hj => simp at hj; subst hj; simp [Addr.add]
  case c2 => intro u hu; simp at hu; subst hu; rfl
  case c3 => unfold maxLen; omega
  case c4 => omega
  case c5 => simp; omega
  intro v' w1 hown' hgrow _
  obtain ⟨R, q1, q2⟩ := h.step hown' hgrow
  have hck : w1.cell? ⟨K, 0, none⟩ = some (.int .i64 k) := by
    have := R.bel.cell (p := ⟨K, 0, none⟩) hK
    rw [World.cell?_setCell_other _ _ _ _ (by simp only [ne_eq, Addr.mk.injEq]; omega)] at this
    exact this.trans hk
  obtain ⟨g, cap, hv⟩ := own_shape hown'
  rw [hv] at R ⊢
  clear hown' hgrow hown h hc
  go_wp2
  go_ret
  exact ⟨_, rfl, R⟩

end Go.Proofs.Ybulkbsmw
