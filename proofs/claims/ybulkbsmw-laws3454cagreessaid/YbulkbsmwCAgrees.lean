/-
  The law 'Agrees': its closure, the iterator run with it, FileOrder, and the walk.
-/
import Derived.Test.YbulkbsmwCStops
import Derived.WalkSmall
import Derived.Deep.QuietTactic
import Derived.BigQuiet
namespace Go.Proofs.Ybulkbsmw
open Go.RowKit

set_option maxHeartbeats 800000 in
set_option maxRecDepth 100000 in
theorem yieldA_any (L n : Nat) (w wr : World) (v : Value) (hn : n ≤ 1024) (h : Inv L w wr v n) :
    Calls Yba.prog 13 #[.int .i64 (n : Int), .pointer (some ⟨L, 0, none⟩)] wr fun e w' =>
      ∃ v', e = .returned (.bool true) ∧ Inv L w w' v' (n + 1) := by
  obtain ⟨i0, hi, hz0, hz1, hz2⟩ := info_parts Yba.info3
  have hc : wr.cell? ⟨L, 0, none⟩ = some v := cell_of_one h.log
  have hown := h.own
  have hroom := h.room
  go_enter Yba.func13, Yba.ntmps13
  go_wp2_with (at_builtin; refine wpList_append_own _ rfl _ _ 38 rfl (L + 2) 3 i0 (.int .i64 0) 1 8 Yba.underlying38 hi hz0 hz1 hz2 rfl (by decide) _ _ _ rfl (hown.alloc _) ⟨wr.heap.size, 0, none⟩ 1 1 [.int .i64 (n : Int)] rfl rfl ?c1 ?c2 ?c3 ?c4 ?c5 ?_)
  case c1 =>
    intro j u hj
    match j, hj with
    | 0, hj => simp at hj; subst hj; simp [Addr.add]
  case c2 => intro u hu; simp at hu; subst hu; rfl
  case c3 => unfold maxLen; omega
  case c4 => omega
  case c5 => simp; omega
  intro v' w1 hown' hgrow _
  obtain ⟨R, q1, q2⟩ := h.step hown' hgrow
  obtain ⟨g, cap, hv⟩ := own_shape hown'
  rw [hv] at R ⊢
  clear hown' hgrow hown h hc
  go_wp2
  go_ret
  exact ⟨_, rfl, R⟩

set_option maxHeartbeats 800000 in
set_option maxRecDepth 100000 in
theorem iterA_any (L X n c : Nat) (ev : Option Addr) (w : World) (v0 : Value) (hn : n ≤ 1024)
    (hb : w.cell? ⟨L + 1, 0, none⟩ = some (.pointer (some ⟨X, 0, none⟩)))
    (hx : w.cell? ⟨X, 1, none⟩ = some (.slice ev n c)) (h : Inv L w w v0 0) :
    Calls Yba.prog 16 #[.func (.func 13) #[] #[.pointer (some ⟨L, 0, none⟩)], .pointer (some ⟨L + 1, 0, none⟩)] w fun e w' =>
      e = .returned (.tuple #[]) ∧ ∃ v', Inv L w w' v' n := by
  go_enter Yba.func16, Yba.ntmps16
  go_wp2
  go_loopw [9] (fun i wr => ∃ m : Nat, m ≤ n ∧ i = .int .i64 m ∧ (∃ v, Inv L w wr v m)) (fun i _ => n - (intOf i).toNat)
  case atStart => exact ⟨0, Nat.zero_le _, rfl, ⟨v0, h⟩⟩
  case round =>
    obtain ⟨m, hm, rfl, ⟨v, hinv⟩⟩ := hrel
    by_cases hlt : m < n
    · go_wp2_with (go_at_call 13; refine (yieldA_any L m w _ v (by omega) hinv).mono ?_; rintro e w' ⟨v', rfl, hinv'⟩)
      go_roundw
      case rel => exact ⟨m + 1, by omega, by go_num, ⟨v', hinv'⟩⟩
      case measure => simp [intOf]; omega
    · have hmn : n = m := by omega
      subst hmn
      go_wp2
      go_end0
      exact ⟨rfl, v, hinv⟩

set_option maxHeartbeats 800000 in
set_option maxRecDepth 100000 in
theorem fileOrder_any (X n c : Nat) (ev : Option Addr) (w : World) (hn : n ≤ 1024) (hx : w.cell? ⟨X, 1, none⟩ = some (.slice ev n c)) :
    Calls Yba.prog 14 #[.pointer (some ⟨X, 0, none⟩)] w fun e w' =>
      e = .returned (.slice (some ⟨w.heap.size, 0, none⟩) n n) ∧ (∀ j, j < n → w'.cell? ⟨w.heap.size, j, none⟩ = some (.int .i64 (j : Int))) ∧ Below w.heap.size w w' := by
  obtain ⟨i0, hi, hz0, hz1, hz2⟩ := info_parts Yba.info3
  go_enter Yba.func14, Yba.ntmps14
  go_wp2_with (first | (at_make; refine wpList_make_full _ rfl _ _ 38 rfl w.heap.size 3 i0 (.int .i64 0) 1 Yba.underlying38 hi hz0 hz1 _ _ _ _ n rfl rfl rfl rfl (by rw [hz2]; omega) (by unfold maxLen; omega) (Nat.le_refl _) ?_))
  intro w1 hown hgrow
  have hB1 : Below w.heap.size w w1 := (Below.refl _ _).grown hgrow (Nat.le_refl _) (fun _ h => by cases h)
  obtain ⟨xs0, hown0⟩ : ∃ xs, w1.ownsRow w.heap.size 3 1 (.slice (some ⟨w.heap.size, 0, none⟩) n n) n xs := ⟨_, hown⟩
  clear hown hgrow
  go_wp2
  go_loopw [13] (fun i wr => ∃ (k : Nat) (xs : List Value), k ≤ n ∧ i = .int .i64 k ∧ wr.ownsRow w.heap.size 3 1 (.slice (some ⟨w.heap.size, 0, none⟩) n n) n xs ∧ (∀ j, j < k → xs[j]? = some (.int .i64 (j : Int))) ∧ Below w.heap.size w wr)
    (fun i _ => n - (intOf i).toNat)
  case atStart => exact ⟨0, xs0, Nat.zero_le _, rfl, hown0, (fun _ h => by omega), hB1⟩
  case round =>
    obtain ⟨k, xs, hk, rfl, hown, hxs, hB⟩ := hrel
    by_cases hlt : k < n
    · have hlen : xs.length = n := by have := hown.1; omega
      obtain ⟨u, hu⟩ : ∃ u, xs[k]? = some u := ⟨_, List.getElem?_eq_getElem (by omega)⟩
      have hcell : wr.cell? ⟨w.heap.size, k, none⟩ = some u := (hown.cellAt k (by omega)).trans hu
      have hfr : wr.frozen? ⟨w.heap.size, k, none⟩ = false := hown.frozenAt k
      have R := (hown.stored k (.int .i64 (k : Int))).1
      have hB' : Below w.heap.size w (wr.setCell ⟨w.heap.size, k, none⟩ (.int .i64 (k : Int))) := hB.setCell (Nat.le_refl _) _
      have hxs' : ∀ j, j < k + 1 → (xs.set k (.int .i64 (k : Int)))[j]? = some (.int .i64 (j : Int)) := fun j hj => by
        by_cases e : j = k
        · subst e; simp [hlen, hlt]
        · rw [List.getElem?_set_ne (by omega)]; exact hxs j (by omega)
      have hlt' : (k : Int) < (n : Int) := by omega
      clear hown hxs hu hlen
      go_wp2
      go_roundw
      case rel => exact ⟨k + 1, _, by omega, by go_num, R, hxs', hB'⟩
      case measure => simp [intOf]; omega
    · have hmn : n = k := by omega
      subst hmn
      go_wp2
      go_ret
      exact ⟨rfl, fun j hj => (hown.cellAt j (by omega)).trans (hxs j hj), hB⟩

set_option maxHeartbeats 1600000 in
set_option maxRecDepth 100000 in
theorem agrees_in (n : Nat) (w : World) (hn : n ≤ 1024) :
    Calls Yba.prog 6 #[.int .u16 (n : Int)] w fun e w' => e = .returned (.bool true) ∧ Below w.heap.size w w' := by
  obtain ⟨i0, hi, hz0, hz1, hz2⟩ := info_parts Yba.info72
  have hmf : ∀ (fn : Fn) (first cap : Array Value) (w : World), (Instr.makeFunc fn first cap).run Yba.prog w = .ok (.func fn first cap) w := fun _ _ _ _ => rfl
  go_enter Yba.func6, Yba.ntmps6
  go_wp2_with (first | (at_make; refine wpList_make_full _ rfl _ _ 32 rfl w.heap.size 72 i0 zeroEvent 8 Yba.underlying32 hi hz0 hz1 _ _ _ _ n rfl rfl rfl rfl ?b2 ?b3 ?b4 ?_))
  case b2 => rw [hz2]; omega
  case b3 => unfold maxLen; omega
  case b4 => exact Nat.le_refl _
  intro w1 hown hgrow
  have hsz : w.heap.size ≤ w1.heap.size := hgrow.size
  have hB1 : Below w.heap.size w w1 := (Below.refl _ _).grown hgrow (Nat.le_refl _) (fun _ h => by cases h)
  clear hown hgrow
  go_wp2_with (first | (go_at_call 12; go_in))
  refine (iterA_any (w1.heap.size + 1) w1.heap.size n n _ _ (.slice none 0 0) hn (laid_box _ _ _) (laid_exec _ _ _ _ _ _ _ rfl) (laid_inv _ _ _)).mono ?_
  rintro e w2 ⟨rfl, v', hinv⟩
  have hL : w2.cell? ⟨w1.heap.size + 1, 0, none⟩ = some v' := cell_of_one hinv.log
  have hX2 : w2.cell? ⟨w1.heap.size, 1, none⟩ = some (.slice (some ⟨w.heap.size, 0, none⟩) n n) := by
    rw [hinv.bel.cell (p := ⟨w1.heap.size, 1, none⟩) (by show w1.heap.size < _; omega)]; exact laid_exec _ _ _ _ _ _ _ rfl
  have hB2 : Below w.heap.size w w2 := (((hB1.alloc (by omega) _).alloc (by simp; omega) _).alloc (by simp; omega) _).trans (hinv.bel.mono (by omega))
  have hown := own_two hinv.own
  have hlt2 : w1.heap.size + 1 < w2.heap.size := by have := hinv.room; omega
  clear hinv hB1
  go_wp2_with fail
  refine (fileOrder_any w1.heap.size n n _ w2 hn hX2).mono ?_
  rintro e w3 ⟨rfl, hord, hB3⟩
  have hL3 : w3.cell? ⟨w1.heap.size + 1, 0, none⟩ = some v' := (hB3.cell (p := ⟨w1.heap.size + 1, 0, none⟩) hlt2).trans hL
  have hB03 : Below w.heap.size w w3 := hB2.trans (hB3.mono hB2.size)
  rcases hown with ⟨hv, h0⟩ | ⟨g, cap, hv, hcell⟩
  · subst h0
    rw [hv] at hL3
    clear hL hX2 hord
    go_wp2
    refine wp_loop_rounds 1 ?_
    rw [rounds_succ]
    go_wp2
    go_ret
    exact ⟨rfl, hB03⟩
  · rw [hv] at hL3
    have hcell3 : ∀ j, j < n → w3.cell? ⟨g, j, none⟩ = some (.int .i64 (j : Int)) := fun j hj =>
      (hB3.cell (p := ⟨g, j, none⟩) (World.block_lt_of_cell? w2 _ (hcell j hj))).trans (hcell j hj)
    have hg3 : w1.heap.size + 1 < w3.heap.size := by have := hB3.size; omega
    clear hL hX2 hcell hB2 hB3
    go_wp2
    go_loopw [7] (fun i wr => ∃ j : Nat, j ≤ n ∧ i = .int .i64 j ∧ Below w3.heap.size w3 wr) (fun i _ => n - (intOf i).toNat)
    case atStart => exact ⟨0, Nat.zero_le _, rfl, Below.refl _ _⟩
    case round =>
      obtain ⟨j, hj, rfl, hB⟩ := hrel
      by_cases hlt : j < n
      · have e1 : wr.cell? ⟨w2.heap.size, j, none⟩ = some (.int .i64 (j : Int)) := (hB.cell (p := ⟨w2.heap.size, j, none⟩) (World.block_lt_of_cell? w3 _ (hord j hlt))).trans (hord j hlt)
        have e2 : wr.cell? ⟨g, j, none⟩ = some (.int .i64 (j : Int)) := (hB.cell (p := ⟨g, j, none⟩) (World.block_lt_of_cell? w3 _ (hcell3 j hlt))).trans (hcell3 j hlt)
        have e3 : wr.cell? ⟨w1.heap.size + 1, 0, none⟩ = some (.slice (some ⟨g, 0, none⟩) n cap) := (hB.cell (p := ⟨w1.heap.size + 1, 0, none⟩) hg3).trans hL3
        have hlt' : (j : Int) < (n : Int) := by omega
        clear hord hcell3 hL3
        go_wp2
        go_quiet (fail)
        go_wp2
        go_roundw
        case rel => exact ⟨j + 1, by omega, by go_num, below_drewN hB _⟩
        case measure => simp [intOf]; omega
      · go_wp2
        go_ret
        exact ⟨rfl, hB03.trans (hB.mono hB03.size)⟩

end Go.Proofs.Ybulkbsmw
