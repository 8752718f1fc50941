/-
  The law 'RoundTrip': binary.Uvarint at one or two bytes, and the walk.
-/
import Derived.Test.YbulkbsmwAExact
import Derived.Lib.VarintBits
namespace Go.Proofs.Ybulkbsmw
open Go.RowKit

set_option maxHeartbeats 800000 in
set_option maxRecDepth 100000 in
theorem uvarint_one (g off n c x : Nat) (w : World) (hx : x < 128) (hn : 1 ≤ n) (h : w.cell? ⟨g, off, none⟩ = some (.int .u8 (x : Int))) :
    Calls Yba.prog 10 #[.slice (some ⟨g, off, none⟩) n c] w fun e w' => e = .returned (.tuple #[.int .u64 (x : Int), .int .i64 1]) ∧ w' = w := by
  have hb0 : bits .or .u64 0 (x : Int) = (x : Int) := by
    rw [u64_orv0 _ _ (by omega) (by omega) (by omega) (by omega) (by omega)]; omega
  go_enter Yba.func10, Yba.ntmps10
  go_wp2
  refine wp_loop_rounds 1 ?_
  rw [rounds_succ]
  go_wp2
  go_ret2
  exact ⟨rfl, rfl⟩

set_option maxHeartbeats 800000 in
set_option maxRecDepth 100000 in
theorem uvarint_two (g off n c x : Nat) (w : World) (hx : 128 ≤ x) (hx2 : x ≤ 4096) (hn : 2 ≤ n) (hn2 : n ≤ 16384) (h : w.cell? ⟨g, off, none⟩ = some (.int .u8 ((x : Int) % 128 + 128))) (h2 : w.cell? ⟨g, off + 1, none⟩ = some (.int .u8 ((x : Int) / 128))) :
    Calls Yba.prog 10 #[.slice (some ⟨g, off, none⟩) n c] w fun e w' => e = .returned (.tuple #[.int .u64 (x : Int), .int .i64 2]) ∧ w' = w := by
  have hand : bits .and .u8 ((x : Int) % 128 + 128) 127 = (x : Int) % 128 := by
    rw [u8_and127 _ (by omega) (by omega)]; omega
  have hb0 : bits .or .u64 0 ((x : Int) % 128) = (x : Int) % 128 := by
    rw [u64_orv0 _ _ (by omega) (by omega) (by omega) (by omega) (by omega)]; omega
  have hb7 : bits .or .u64 ((x : Int) % 128) ((x : Int) / 128 * 128) = (x : Int) := by
    rw [u64_orv7 _ _ (by omega) (by omega) (by omega) (by omega) (by omega)]; omega
  go_enter Yba.func10, Yba.ntmps10
  go_wp2
  refine wp_loop_rounds 2 ?_
  rw [rounds_succ]
  go_wp2
  rw [rounds_succ]
  go_wp2
  go_ret2
  exact ⟨rfl, rfl⟩

theorem uvarint_enc (g off n c x : Nat) (w : World) (hx : x ≤ 4096) (hm : (encZ x).length ≤ n) (hn2 : n ≤ 16384)
    (h : ∀ j, j < (encZ x).length → w.cell? ⟨g, off + j, none⟩ = some (.int .u8 ((encZ x).getD j 0))) :
    Calls Yba.prog 10 #[.slice (some ⟨g, off, none⟩) n c] w fun e w' => e = .returned (.tuple #[.int .u64 (x : Int), .int .i64 ((encZ x).length : Int)]) ∧ w' = w := by
  by_cases hs : x < 128
  · have e : encZ x = [(x : Int)] := by simp [encZ, hs]
    rw [e] at h hm ⊢
    exact uvarint_one g off n c x w hs hm (by simpa using h 0 (by simp))
  · have e : encZ x = [(x : Int) % 128 + 128, (x : Int) / 128] := by simp [encZ, hs]
    rw [e] at h hm ⊢
    exact uvarint_two g off n c x w (by omega) hx hm hn2 (by simpa using h 0 (by simp)) (by simpa using h 1 (by simp))

/-- What 'appendName' hands back, cell by cell. -/
theorem got_cells {w : World} {base N : Nat} {v : Value} {zs : List Int} (h : w.ownsRow base 5 1 v N (cellsOf zs)) (hp : 0 < N) :
    ∃ g c, v = .slice (some ⟨g, 0, none⟩) N c ∧ N ≤ c ∧ c ≤ 9223372036854775807 ∧ ∀ j, j < zs.length → w.cell? ⟨g, j, none⟩ = some (.int .u8 (zs.getD j 0)) := by
  rcases h.2 with ⟨_, h0⟩ | ⟨g, cap, cur, rfl, _, _, h1, h2, _⟩
  · omega
  · refine ⟨g, cap, rfl, h1, by unfold maxLen at h2; omega, fun j hj => ?_⟩
    have := h.cells (g := g) rfl j _ (cellsOf_at hj)
    rw [add_plain, Nat.zero_add] at this
    exact this

theorem getD_left (a b : List Int) (j : Nat) (h : j < a.length) : (a ++ b).getD j 0 = a.getD j 0 := by
  simp [List.getD, List.getElem?_append_left h]
theorem getD_right (a b : List Int) (j : Nat) : (a ++ b).getD (a.length + j) 0 = b.getD j 0 := by
  simp [List.getD, List.getElem?_append_right]

theorem strZ_getD (s : ByteArray) (k : Nat) (h : k < s.size) : (strZ s).getD k 0 = ((s[k]'h).toNat : Int) := by
  have h' : k < s.data.toList.length := by rw [Array.length_toList]; exact h
  simp only [strZ, List.getD, List.getElem?_map, List.getElem?_eq_getElem h', Option.map_some, Option.getD_some]
  rfl

set_option maxHeartbeats 1600000 in
set_option maxRecDepth 100000 in
theorem round_in (a0 : Option Addr) (n cap0 : Nat) (Z : List Int) (s : ByteArray) (w : World) (hn : n ≤ 4096) (hs : s.size ≤ 4096) (hZ : Z.length = n) (hb : Shows w (.slice a0 n cap0) Z) :
    Calls Yba.prog 4 #[.slice a0 n cap0, .string s] w fun e w' => e = .returned (.bool true) ∧ Below w.heap.size w w' := by
  obtain ⟨i0, hi, hz0, hz1, hz2⟩ := info_parts Yba.info5
  have hsz5 : (Yba.prog.info? 5).map (·.size) = some 1 := by rw [hi]; simp [hz1]
  go_enter Yba.func4, Yba.ntmps4
  go_wp2_with (first | (at_make; refine wpList_make_full _ rfl _ _ 22 rfl w.heap.size 5 i0 (.int .u8 0) 1 Yba.underlying22 hi hz0 hz1 _ _ _ _ n rfl rfl rfl rfl (by rw [hz2]; omega) (by unfold maxLen; omega) (Nat.le_refl _) ?_))
  intro w1 hown1 hgrow1
  obtain ⟨⟨cur, hg1, hcur⟩, hB1⟩ := made_full hown1 rfl hgrow1
  clear hown1 hgrow1
  have hB1s := hB1.size
  have hb1 := hb.later hB1
  go_wp2_with ((with_reducible show wpList _ _ _ (Oper.mk (some 25) _ _ _ _ _ :: _) _ _); refine wpList_copy_splice rfl (.tmp 23) (.tmp 24) 22 22 rfl 5 Yba.underlying22 hsz5 (some ⟨w.heap.size, 0, none⟩) a0 n n n cap0 rfl rfl w.heap.size 0 cur 5 hg1 (cellsOf Z) (by rw [cellsOf_length, hZ]; exact (Nat.min_self n).symm) (fun hp => ⟨rfl, hb1.pos (by rwa [cellsOf_length] at hp)⟩) (by rw [cellsOf_length]; omega) (cellsOf_one Z) w.heap.size w hB1 (Nat.le_refl _) ?_)
  intro w2 HG2 hB2
  obtain ⟨hc2, hin2, hg2⟩ := in_cells HG2.out (by omega)
  clear HG2 hg1 hb1 hB1 hB1s hin2
  go_wp2_with fail
  refine (appendName_full w.heap.size n s (cellsOf Z) w2 hs hn (by rw [cellsOf_length, hZ]) hg2 hc2).mono ?_
  rintro e w3 ⟨v3, rfl, hown3, hB3⟩
  have henc := encZ_length s.size
  rw [encC_eq, cellsOf_length, strC_eq, ← cellsOf_append, ← cellsOf_append] at hown3
  obtain ⟨g, c, hv, hNc, hcm, hcell⟩ := got_cells hown3 (by omega)
  have hsl := strZ_length s
  have hA : ∀ j, j < n → w3.cell? ⟨g, j, none⟩ = some (.int .u8 (Z.getD j 0)) := fun j hj => by
    rw [hcell j (by simp only [List.length_append]; omega), getD_left _ _ _ (by omega)]
  have hE : ∀ j, j < (encZ s.size).length → w3.cell? ⟨g, n + j, none⟩ = some (.int .u8 ((encZ s.size).getD j 0)) := fun j hj => by
    rw [hcell (n + j) (by simp only [List.length_append]; omega), ← hZ, getD_right, getD_left _ _ _ hj]
  have hS : ∀ j, j < s.size → w3.cell? ⟨g, n + (encZ s.size).length + j, none⟩ = some (.int .u8 ((strZ s).getD j 0)) := fun j hj => by
    rw [hcell _ (by simp only [List.length_append]; omega), ← hZ, Nat.add_assoc, getD_right, getD_right]
  have hB03 : Below w.heap.size w w3 := hB2.trans (hB3.mono (by omega))
  have hb3 := hb.later hB03
  have huv : ∀ w4 c', Below w3.heap.size w3 w4 → Calls Yba.prog 10 #[.slice (some ⟨g, n, none⟩) ((encZ s.size).length + s.size) c'] w4 fun e w' => e = .returned (.tuple #[.int .u64 (s.size : Int), .int .i64 ((encZ s.size).length : Int)]) ∧ w' = w4 :=
    fun w4 c' hB => uvarint_enc g n ((encZ s.size).length + s.size) c' s.size w4 hs (by omega) (by omega) (fun j hj => (hB.cell (p := ⟨g, n + j, none⟩) (World.block_lt_of_cell? w3 _ (hE j hj))).trans (hE j hj))
  have hpre : Shows w3 (.slice (some ⟨g, 0, none⟩) n c) Z := ⟨_, _, by rw [hZ], (fun h => by cases h), fun _ => ⟨g, 0, rfl, fun j hj => by rw [Nat.zero_add]; exact hA j (by omega)⟩⟩
  obtain ⟨M, hM⟩ : ∃ M, (encZ s.size).length = M := ⟨_, rfl⟩
  rw [hM] at hv hNc hS huv henc
  rw [hv]
  clear hown3 hc2 hcell hA hE hv hM hsl hB3 hB2 hg2 hcur cur hb
  go_wp2_with fail
  refine (eq_shows _ _ Z w3 (by omega) hpre hb3).mono ?_
  rintro e w4 ⟨rfl, hB4⟩
  have hB04 : Below w.heap.size w w4 := hB03.trans (hB4.mono hB03.size)
  have hS4 : ∀ j, j < s.size → w4.cell? ⟨g, n + M + j, none⟩ = some (.int .u8 ((strZ s).getD j 0)) := fun j hj => (hB4.cell (p := ⟨g, n + M + j, none⟩) (World.block_lt_of_cell? w3 _ (hS j hj))).trans (hS j hj)
  have huv4 := fun c' => huv w4 c' hB4
  clear hpre hb3 hS huv hB4 hB03
  have hne : ¬ c = n := by omega
  go_wp2_with fail
  rw [show n + M + s.size - n = M + s.size from by omega]
  refine (huv4 _).mono ?_
  rintro e w5 ⟨rfl, hw5⟩
  rw [hw5]
  clear huv4 hw5
  by_cases h0 : s.size = 0
  · have h1 : s.size ≤ 0 := by omega
    clear h0 hS4
    by_cases h2 : c - n = M
    · go_wp2
      refine wp_loop_rounds 1 ?_
      rw [rounds_succ]
      go_wp2
      go_ret
      exact ⟨rfl, hB04⟩
    · go_wp2
      refine wp_loop_rounds 1 ?_
      rw [rounds_succ]
      go_wp2
      go_ret
      exact ⟨rfl, hB04⟩
  · have hne2 : ¬ c - n = M := by omega
    go_wp2
    go_loopw [11] (fun i wr => ∃ k : Nat, k ≤ s.size ∧ i = .int .i64 k ∧ Below w4.heap.size w4 wr) (fun i _ => s.size - (intOf i).toNat)
    case atStart => exact ⟨0, Nat.zero_le _, rfl, Below.refl _ _⟩
    case round =>
      obtain ⟨k, hk, rfl, hB⟩ := hrel
      by_cases hlt : k < s.size
      · have e1 : wr.cell? ⟨g, n + M + k, none⟩ = some (.int .u8 ((s[k]'hlt).toNat : Int)) := by
          have := hS4 k hlt
          rw [strZ_getD s k hlt] at this
          exact (hB.cell (p := ⟨g, n + M + k, none⟩) (World.block_lt_of_cell? w4 _ this)).trans this
        have hlt' : (k : Int) < (s.size : Int) := by omega
        clear hS4
        go_wp2
        go_quiet (fail)
        go_wp2
        go_roundw
        case rel => exact ⟨k + 1, by omega, by go_num, below_drewN hB _⟩
        case measure => simp [intOf]; omega
      · go_wp2
        go_ret
        exact ⟨rfl, hB04.trans (hB.mono hB04.size)⟩

end Go.Proofs.Ybulkbsmw
