/-
  The law 'Stops': its walk.
-/
import Derived.Test.YbulkbsmwCIter
namespace Go.Proofs.Ybulkbsmw
open Go.RowKit

def zeroEvent : Value := .agg #[.int .i64 0, .int .i64 0, .int .i64 0, .string ByteArray.empty, .int .i64 0, .string ByteArray.empty, .slice none 0 0, .slice none 0 0]
theorem Yba.info72 : (Yba.prog.info? 72).map (fun i => (i.zero, i.size, i.bytes)) = some (some zeroEvent, 8, 112) := by kernel_rfl

/-- The three blocks that are laid ahead of the iterator's run: the execution, the log, the closure's box. -/
theorem laid_inv (w1 : World) (o : Obj) (p : Value) :
    Inv (w1.heap.size + 1) (((w1.alloc o).alloc (.cells #[.slice none 0 0] 38)).alloc (.cells #[p] 31)) (((w1.alloc o).alloc (.cells #[.slice none 0 0] 38)).alloc (.cells #[p] 31)) (.slice none 0 0) 0 := by
  refine ⟨?_, World.ownsRow_nil _ _ _ _, Below.refl _ _, rfl, by simp⟩
  rw [Below.heap_alloc _ _ _ (by simp)]
  have := heap_alloc_new (w1.alloc o) (.cells #[.slice none 0 0] 38)
  simpa using this

theorem laid_box (w1 : World) (o : Obj) (p : Value) : (((w1.alloc o).alloc (.cells #[.slice none 0 0] 38)).alloc (.cells #[p] 31)).cell? ⟨w1.heap.size + 1 + 1, 0, none⟩ = some p := by
  rw [World.cell?_alloc_at _ _ _ _ (by simp)]; rfl

theorem laid_old (w1 : World) (o o' o'' : Obj) (b j : Nat) (h : b < w1.heap.size) : (((w1.alloc o).alloc o').alloc o'').cell? ⟨b, j, none⟩ = w1.cell? ⟨b, j, none⟩ := by
  rw [World.cell?_alloc_past _ _ _ (by simp; omega), World.cell?_alloc_past _ _ _ (by simp; omega), World.cell?_alloc_past _ _ _ h]

theorem laid_exec (w1 : World) (c : Array Value) (t : TypeId) (o' o'' : Obj) (j : Nat) (v : Value) (h : c[j]? = some v) : (((w1.alloc (.cells c t)).alloc o').alloc o'').cell? ⟨w1.heap.size, j, none⟩ = some v := by
  rw [World.cell?_alloc_past _ _ _ (by simp; omega), World.cell?_alloc_past _ _ _ (by simp), World.cell?_alloc_at _ _ _ _ rfl]
  exact h

theorem upto_get {n j : Nat} (h : j < n) : (upto n)[j]? = some (.int .i64 (j : Int)) := by simp [upto, h]

theorem own_cell {w : World} {base n g cap : Nat} (h : w.ownsRow base 3 1 (.slice (some ⟨g, 0, none⟩) n cap) n (upto n)) (j : Nat) (hj : j < n) : w.cell? ⟨g, j, none⟩ = some (.int .i64 (j : Int)) := by
  have := h.cells (g := g) rfl j _ (upto_get hj)
  rw [Addr.add_lit, Nat.zero_add] at this
  exact this

/-- What the log holds, in one of two shapes. -/
theorem own_two {w : World} {base n : Nat} {v : Value} (h : w.ownsRow base 3 1 v n (upto n)) :
    (v = .slice none 0 0 ∧ n = 0) ∨ ∃ g cap, v = .slice (some ⟨g, 0, none⟩) n cap ∧ ∀ j, j < n → w.cell? ⟨g, j, none⟩ = some (.int .i64 (j : Int)) := by
  rcases h.2 with ⟨rfl, h0⟩ | ⟨g, cap, cur, hv, _⟩
  · exact .inl ⟨rfl, h0⟩
  · subst hv; exact .inr ⟨g, cap, rfl, own_cell h⟩

set_option maxHeartbeats 1600000 in
set_option maxRecDepth 100000 in
theorem stops_in (n k : Nat) (w : World) (hn : n ≤ 1024) (hk1 : k ≤ 65535) :
    Calls Yba.prog 5 #[.int .u16 (n : Int), .int .u16 (k : Int)] w fun e w' => e = .returned (.bool true) ∧ Below w.heap.size w w' := by
  obtain ⟨i0, hi, hz0, hz1, hz2⟩ := info_parts Yba.info72
  have hmf : ∀ (fn : Fn) (first cap : Array Value) (w : World), (Instr.makeFunc fn first cap).run Yba.prog w = .ok (.func fn first cap) w := fun _ _ _ _ => rfl
  go_enter Yba.func5, Yba.ntmps5
  go_wp2_with (first | (at_make; refine wpList_make_full _ rfl _ _ 32 rfl w.heap.size 72 i0 zeroEvent 8 Yba.underlying32 hi hz0 hz1 _ _ _ _ n rfl rfl rfl rfl ?b2 ?b3 ?b4 ?_))
  case b2 => rw [hz2]; omega
  case b3 => unfold maxLen; omega
  case b4 => simp
  intro w1 hown hgrow
  have hsz : w.heap.size + 1 ≤ w1.heap.size := by have := hgrow.size; simpa using this
  have hB1 : Below w.heap.size w w1 := ((Below.refl _ _).alloc (Nat.le_refl _) _).grown hgrow (by simp) (fun _ h => by cases h)
  have hk : w1.cell? ⟨w.heap.size, 0, none⟩ = some (.int .i64 (k : Int)) := hgrow.cell (by rw [World.cell?_alloc_at _ _ _ _ rfl]; rfl) (by simp)
  clear hown hgrow
  go_wp2_with (first | (go_at_call 12; go_in))
  refine (iterS_any (w1.heap.size + 1) w.heap.size w1.heap.size n n _ (k : Int) _ (.slice none 0 0) hn (by omega) (by rw [laid_old _ _ _ _ _ _ (by omega)]; exact hk) (laid_box _ _ _) (laid_exec _ _ _ _ _ _ _ rfl) (laid_inv _ _ _)).mono ?_
  rintro e w2 ⟨rfl, v', hinv⟩
  have hL : w2.cell? ⟨w1.heap.size + 1, 0, none⟩ = some v' := cell_of_one hinv.log
  have hK2 : w2.cell? ⟨w.heap.size, 0, none⟩ = some (.int .i64 (k : Int)) := by
    rw [hinv.bel.cell (p := ⟨w.heap.size, 0, none⟩) (by show w.heap.size < _; omega), laid_old _ _ _ _ _ _ (by omega)]; exact hk
  have hX2 : w2.cell? ⟨w1.heap.size, 1, none⟩ = some (.slice (some ⟨w.heap.size + 1, 0, none⟩) n n) := by
    rw [hinv.bel.cell (p := ⟨w1.heap.size, 1, none⟩) (by show w1.heap.size < _; omega)]; exact laid_exec _ _ _ _ _ _ _ rfl
  have hB2 : Below w.heap.size w w2 := (((hB1.alloc (by omega) _).alloc (by simp; omega) _).alloc (by simp; omega) _).trans (hinv.bel.mono (by omega))
  have hown := own_two hinv.own
  clear hinv hk hB1
  obtain ⟨c, hc⟩ : ∃ c, stopAt n (k : Int) = c := ⟨_, rfl⟩
  rw [hc] at hown
  have HC : Hid (stopAt n (k : Int) = c) := hc
  clear hc
  rcases (show (1 ≤ k ∧ k < n) ∨ (1 ≤ k ∧ ¬ k < n) ∨ k = 0 from by omega) with ⟨h1, h2⟩ | ⟨h1, h2⟩ | h1
  · obtain rfl : c = k := by have := HC.out; unfold stopAt at this; split at this <;> omega
    rcases hown with ⟨hv, h0⟩ | ⟨g, cap, hv, hcell⟩
    · omega
    · rw [hv] at hL
      go_wp2
      go_loop [11] (fun i => ∃ j : Nat, j ≤ c ∧ i = .int .i64 j) (fun i => c - (intOf i).toNat)
      case atStart => exact ⟨0, Nat.zero_le _, rfl⟩
      case round =>
        obtain ⟨j, hj, rfl⟩ := hrel
        by_cases hlt : j < c
        · have hcj := hcell j hlt
          go_wp2
          go_round
          case rel => exact ⟨j + 1, by omega, by go_num⟩
          case measure => simp [intOf]; omega
        · go_wp2
          go_ret
          exact ⟨rfl, hB2⟩
  · obtain rfl : c = n := by have := HC.out; unfold stopAt at this; split at this <;> omega
    rcases hown with ⟨hv, h0⟩ | ⟨g, cap, hv, hcell⟩
    · subst h0
      rw [hv] at hL
      go_wp2
      refine wp_loop_rounds 1 ?_
      rw [rounds_succ]
      go_wp2
      go_ret
      exact ⟨rfl, hB2⟩
    · rw [hv] at hL
      go_wp2
      go_loop [11] (fun i => ∃ j : Nat, j ≤ c ∧ i = .int .i64 j) (fun i => c - (intOf i).toNat)
      case atStart => exact ⟨0, Nat.zero_le _, rfl⟩
      case round =>
        obtain ⟨j, hj, rfl⟩ := hrel
        by_cases hlt : j < c
        · have hcj := hcell j hlt
          go_wp2
          go_round
          case rel => exact ⟨j + 1, by omega, by go_num⟩
          case measure => simp [intOf]; omega
        · go_wp2
          go_ret
          exact ⟨rfl, hB2⟩
  · obtain rfl : c = n := by have := HC.out; unfold stopAt at this; split at this <;> omega
    subst h1
    rcases hown with ⟨hv, h0⟩ | ⟨g, cap, hv, hcell⟩
    · subst h0
      rw [hv] at hL
      go_wp2
      refine wp_loop_rounds 1 ?_
      rw [rounds_succ]
      go_wp2
      go_ret
      exact ⟨rfl, hB2⟩
    · rw [hv] at hL
      go_wp2
      go_loop [11] (fun i => ∃ j : Nat, j ≤ c ∧ i = .int .i64 j) (fun i => c - (intOf i).toNat)
      case atStart => exact ⟨0, Nat.zero_le _, rfl⟩
      case round =>
        obtain ⟨j, hj, rfl⟩ := hrel
        by_cases hlt : j < c
        · have hcj := hcell j hlt
          go_wp2
          go_round
          case rel => exact ⟨j + 1, by omega, by go_num⟩
          case measure => simp [intOf]; omega
        · go_wp2
          go_ret
          exact ⟨rfl, hB2⟩

end Go.Proofs.Ybulkbsmw
