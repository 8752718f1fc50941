/-
  The byte-slice callees of the two laws over 'appendName', each by its contract.
-/
import Derived.Test.YbulkbsmwRows
import Derived.WalkKit
import Derived.Laws.CopyOwn
import Derived.Lib.AppendStr
import Derived.Lib.Varint
import Derived.WalkSmall
import Derived.Deep.QuietTactic
import Derived.BigQuiet
namespace Go.Proofs.Ybulkbsmw
open Go.RowKit

theorem Yba.info5 : (Yba.prog.info? 5).map (fun i => (i.zero, i.size, i.bytes)) = some (some (.int .u8 0), 1, 1) := by kernel_rfl

/-- The bytes that a name's length (at most 4096) is written in, as cells. -/
def encC (x : Nat) : List Value := if x < 128 then [.int .u8 (x : Int)] else [.int .u8 ((x : Int) % 128 + 128), .int .u8 ((x : Int) / 128)]

theorem ownsRow_below {w w' : World} {base : Nat} {e : TypeId} {size : Nat} {v : Value} {n : Nat} {xs : List Value} (h : w.ownsRow base e size v n xs) (hb : Below w.heap.size w w') : w'.ownsRow base e size v n xs := by
  refine ⟨h.1, ?_⟩
  rcases h.2 with h2 | ⟨g, cap, cur, hv, hg, hh, r⟩
  · exact .inl h2
  · exact .inr ⟨g, cap, cur, hv, hg, by rw [hb.block g (lt_of_block hh)]; exact hh, r⟩

theorem one_new (w : World) (v : Value) (t : TypeId) : ∀ j u, [v][j]? = some u → (w.alloc (.cells #[v] t)).cell? ((⟨w.heap.size, 0, none⟩ : Addr).add j) = some u := by
  intro j u hj
  match j, hj with
  | 0, hj => simp at hj; subst hj; simp [Addr.add]

theorem one_cell (k : IntKind) (z : Int) : ∀ u ∈ [Value.int k z], u.oneCell' = true := by
  intro u hu; simp at hu; subst hu; rfl

theorem or128 (x : Nat) : bits .or .u8 ((x : Int) % 256) 128 = (x : Int) % 128 + 128 := by
  rw [Lib.u8_or128_any _ (by omega) (by omega)]; omega
theorem encC_small {x : Nat} (h : x < 128) : encC x = [.int .u8 (x : Int)] := by simp [encC, h]
theorem encC_big {x : Nat} (h : ¬ x < 128) : encC x = [.int .u8 ((x : Int) % 128 + 128), .int .u8 ((x : Int) / 128)] := by simp [encC, h]

/-- Behind an append of one byte onto an owned row: all below the row's base is as it was. -/
theorem step_below {B n : Nat} {w wr w1 : World} {v : Value} {xs : List Value} {o : Obj} (hb : Below B w wr) (hB : B ≤ wr.heap.size) (hown : wr.ownsRow B 5 1 v n xs) (hgrow : (wr.alloc o).grownBy w1 v.ownBlock) : Below B w w1 :=
  (hb.alloc hB o).grown hgrow (by simp; omega) (fun j hj => (hown.lt j hj).1)

set_option maxHeartbeats 800000 in
set_option maxRecDepth 100000 in
theorem enc_any (x : Nat) (w : World) (hx : x ≤ 4096) :
    Calls Yba.prog 8 #[.int .u64 (x : Int)] w fun e w' => ∃ v, e = .returned v ∧ w'.ownsRow w.heap.size 5 1 v (encC x).length (encC x) ∧ Below w.heap.size w w' := by
  obtain ⟨i0, hi, hz0, hz1, hz2⟩ := info_parts Yba.info5
  by_cases hs : x < 128
  · rw [encC_small hs]
    go_enter Yba.func8, Yba.ntmps8
    go_wp2
    refine wp_loop_rounds 1 ?_
    rw [rounds_succ]
    go_wp2_with (at_builtin; refine wpList_append_own _ rfl _ _ 22 rfl w.heap.size 5 i0 (.int .u8 0) 1 1 Yba.underlying22 hi hz0 hz1 hz2 rfl (by decide) _ _ _ rfl ((World.ownsRow_nil w w.heap.size 5 1).alloc _) ⟨w.heap.size, 0, none⟩ 1 1 [.int .u8 (x : Int)] rfl rfl (one_new _ _ _) (one_cell _ _) (by decide) (by decide) (by simp) ?_)
    intro v' w1 hown' hgrow _
    have hb := step_below (Below.refl w.heap.size w) (Nat.le_refl _) (World.ownsRow_nil w w.heap.size 5 1) hgrow
    go_wp2
    go_ret
    exact ⟨v', rfl, hown', hb⟩
  · rw [encC_big hs]
    have hor := or128 x
    go_enter Yba.func8, Yba.ntmps8
    go_wp2
    refine wp_loop_rounds 2 ?_
    rw [rounds_succ]
    go_wp2_with (at_builtin; refine wpList_append_own _ rfl _ _ 22 rfl w.heap.size 5 i0 (.int .u8 0) 1 1 Yba.underlying22 hi hz0 hz1 hz2 rfl (by decide) _ _ _ rfl ((World.ownsRow_nil w w.heap.size 5 1).alloc _) ⟨w.heap.size, 0, none⟩ 1 1 [.int .u8 ((x : Int) % 128 + 128)] rfl rfl (one_new _ _ _) (one_cell _ _) (by decide) (by decide) (by simp) ?_)
    intro v' w1 hown' hgrow _
    have hb := step_below (Below.refl w.heap.size w) (Nat.le_refl _) (World.ownsRow_nil w w.heap.size 5 1) hgrow
    have hsz := hb.size
    clear hgrow
    go_wp2_with fail
    rw [rounds_succ]
    go_wp2_with (at_builtin; refine wpList_append_own _ rfl _ _ 22 rfl w.heap.size 5 i0 (.int .u8 0) 1 1 Yba.underlying22 hi hz0 hz1 hz2 rfl (by decide) _ _ _ rfl (hown'.alloc _) ⟨w1.heap.size, 0, none⟩ 1 1 [.int .u8 ((x : Int) / 128)] rfl rfl (one_new _ _ _) (one_cell _ _) (by decide) (by decide) (by simp; omega) ?_)
    intro v2 w2 hown2 hgrow2 _
    have hb2 := step_below hb hsz hown' hgrow2
    go_wp2
    go_ret
    exact ⟨v2, rfl, hown2, hb2⟩

theorem ownsRow_base {w : World} {base base' : Nat} {e : TypeId} {size : Nat} {v : Value} {n : Nat} {xs : List Value} (h : w.ownsRow base e size v n xs) (hb : base' ≤ base) : w.ownsRow base' e size v n xs := by
  refine ⟨h.1, ?_⟩
  rcases h.2 with h2 | ⟨g, cap, cur, hv, hg, r⟩
  · exact .inl h2
  · exact .inr ⟨g, cap, cur, hv, by omega, r⟩

theorem step_grows {w w1 : World} {o : Obj} (hgrow : (w.alloc o).grownBy w1 none) : Below w.heap.size w w1 :=
  ((Below.refl _ _).alloc (Nat.le_refl _) o).grown hgrow (by simp) (fun _ h => by cases h)

set_option maxHeartbeats 800000 in
set_option maxRecDepth 100000 in
theorem appendUvarint_full (g n x : Nat) (xs : List Value) (w : World) (hx : x ≤ 4096) (hn : n ≤ 4096) (hl : xs.length = n) (hg : g < w.heap.size)
    (hc : ∀ j u, xs[j]? = some u → w.cell? ⟨g, j, none⟩ = some u) :
    Calls Yba.prog 15 #[.slice (some ⟨g, 0, none⟩) n n, .int .u64 (x : Int)] w fun e w' =>
      ∃ v, e = .returned v ∧ w'.ownsRow w.heap.size 5 1 v (n + (encC x).length) (xs ++ encC x) ∧ Below w.heap.size w w' := by
  obtain ⟨i0, hi, hz0, hz1, hz2⟩ := info_parts Yba.info5
  have hc' : ∀ (o : Obj) (b : Addr), some (⟨g, 0, none⟩ : Addr) = some b → ∀ j u, xs[j]? = some u → (w.alloc o).cell? (b.add j) = some u := by
    intro o b hb j u hu
    cases hb
    rw [Addr.add_lit, Nat.zero_add, World.cell?_alloc_past _ _ _ hg]
    exact hc j u hu
  by_cases hs : x < 128
  · rw [encC_small hs]
    go_enter Yba.func15, Yba.ntmps15
    go_wp2
    refine wp_loop_rounds 1 ?_
    rw [rounds_succ]
    go_wp2_with (at_builtin; refine wpList_append_grows _ rfl _ _ 22 rfl 5 i0 (.int .u8 0) 1 1 Yba.underlying22 hi hz0 hz1 hz2 rfl (by decide) (some ⟨g, 0, none⟩) n n xs rfl (fun h => by cases h) (by omega) (hc' _) ⟨w.heap.size, 0, none⟩ 1 1 [.int .u8 (x : Int)] rfl rfl (one_new _ _ _) (one_cell _ _) (by omega) (by unfold maxLen; omega) (by omega) ?_)
    intro v' w1 hown' hgrow
    have hb := step_grows hgrow
    have hown2 := ownsRow_base (base' := w.heap.size) hown' (by simp)
    clear hown' hgrow
    go_wp2
    go_ret
    exact ⟨v', rfl, hown2, hb⟩
  · rw [encC_big hs]
    have hor := or128 x
    go_enter Yba.func15, Yba.ntmps15
    go_wp2
    refine wp_loop_rounds 2 ?_
    rw [rounds_succ]
    go_wp2_with (at_builtin; refine wpList_append_grows _ rfl _ _ 22 rfl 5 i0 (.int .u8 0) 1 1 Yba.underlying22 hi hz0 hz1 hz2 rfl (by decide) (some ⟨g, 0, none⟩) n n xs rfl (fun h => by cases h) (by omega) (hc' _) ⟨w.heap.size, 0, none⟩ 1 1 [.int .u8 ((x : Int) % 128 + 128)] rfl rfl (one_new _ _ _) (one_cell _ _) (by omega) (by unfold maxLen; omega) (by omega) ?_)
    intro v' w1 hown' hgrow
    have hb := step_grows hgrow
    have hsz := hb.size
    have hown1 := ownsRow_base (base' := w.heap.size) hown' (by simp)
    clear hown' hgrow
    go_wp2_with fail
    rw [rounds_succ]
    go_wp2_with (at_builtin; refine wpList_append_own _ rfl _ _ 22 rfl w.heap.size 5 i0 (.int .u8 0) 1 1 Yba.underlying22 hi hz0 hz1 hz2 rfl (by decide) _ _ _ rfl (hown1.alloc _) ⟨w1.heap.size, 0, none⟩ 1 1 [.int .u8 ((x : Int) / 128)] rfl rfl (one_new _ _ _) (one_cell _ _) (by unfold maxLen; omega) (by omega) (by simp; omega) ?_)
    intro v2 w2 hown2 hgrow2 _
    have hb2 := step_below hb hsz hown1 hgrow2
    have hown3 : w2.ownsRow w.heap.size 5 1 v2 (n + 2) (xs ++ [.int .u8 ((x : Int) % 128 + 128), .int .u8 ((x : Int) / 128)]) := by simpa [List.append_assoc] using hown2
    clear hown2 hgrow2
    go_wp2
    go_ret
    exact ⟨v2, rfl, hown3, hb2⟩

theorem strCells_eq (s : ByteArray) : Lib.strCells s = s.data.toList.map fun b => Value.int .u8 (b.toNat : Int) := rfl

set_option maxHeartbeats 800000 in
set_option maxRecDepth 100000 in
/-- 'appendName' onto a slice without spare room, whose cells are xs. -/
theorem appendName_full (g n : Nat) (s : ByteArray) (xs : List Value) (w : World) (hx : s.size ≤ 4096) (hn : n ≤ 4096) (hl : xs.length = n) (hg : g < w.heap.size)
    (hc : ∀ j u, xs[j]? = some u → w.cell? ⟨g, j, none⟩ = some u) :
    Calls Yba.prog 7 #[.slice (some ⟨g, 0, none⟩) n n, .string s] w fun e w' =>
      ∃ v, e = .returned v ∧ w'.ownsRow w.heap.size 5 1 v (n + (encC s.size).length + s.size) (xs ++ (encC s.size ++ Lib.strCells s)) ∧ Below w.heap.size w w' := by
  obtain ⟨i0, hi, hz0, hz1, hz2⟩ := info_parts Yba.info5
  have hle : (encC s.size).length ≤ 2 := by unfold encC; split <;> simp
  go_enter Yba.func7, Yba.ntmps7
  go_wp2_with fail
  refine (appendUvarint_full g n s.size xs w hx hn hl hg hc).mono ?_
  rintro e w1 ⟨v, rfl, hown, hb⟩
  have hsz := hb.size
  go_wp2_with (at_builtin; refine Lib.wpList_append_own_string _ rfl _ _ 22 9 rfl w.heap.size 5 i0 Yba.underlying22 Yba.underlying9 hi hz0 hz1 hz2 _ _ _ rfl hown s rfl (by unfold maxLen; omega) (by omega) hsz ?_)
  intro v2 w2 hown2 hgrow2 _
  have hb2 : Below w.heap.size w w2 := hb.grown hgrow2 hsz (fun j hj => (hown.lt j hj).1)
  go_wp2
  go_ret
  exact ⟨v2, rfl, hown2, hb2⟩

set_option maxHeartbeats 800000 in
set_option maxRecDepth 100000 in
theorem eq_some (b off b' off' n c c' : Nat) (z : Nat → Int) (w : World) (hn : n ≤ 16384)
    (h1 : ∀ j, j < n → w.cell? ⟨b, off + j, none⟩ = some (.int .u8 (z j))) (h2 : ∀ j, j < n → w.cell? ⟨b', off' + j, none⟩ = some (.int .u8 (z j))) :
    Calls Yba.prog 9 #[.slice (some ⟨b, off, none⟩) n c, .slice (some ⟨b', off', none⟩) n c'] w fun e w' => e = .returned (.bool true) ∧ Below w.heap.size w w' := by
  go_enter Yba.func9, Yba.ntmps9
  go_wp2
  go_loopw [5] (fun i wr => ∃ k : Nat, k ≤ n ∧ i = .int .i64 k ∧ Below w.heap.size w wr) (fun i _ => n - (intOf i).toNat)
  case atStart => exact ⟨0, Nat.zero_le _, rfl, Below.refl _ _⟩
  case round =>
    obtain ⟨k, hk, rfl, hb⟩ := hrel
    by_cases hlt : k < n
    · have e1 : wr.cell? ⟨b, off + k, none⟩ = some (.int .u8 (z k)) := (hb.cell (p := ⟨b, off + k, none⟩) (World.block_lt_of_cell? w _ (h1 k hlt))).trans (h1 k hlt)
      have e2 : wr.cell? ⟨b', off' + k, none⟩ = some (.int .u8 (z k)) := (hb.cell (p := ⟨b', off' + k, none⟩) (World.block_lt_of_cell? w _ (h2 k hlt))).trans (h2 k hlt)
      have hlt' : (k : Int) < (n : Int) := by omega
      go_wp2
      go_quiet (fail)
      go_wp2
      go_roundw
      case rel => exact ⟨k + 1, by omega, by go_num, below_drewN hb _⟩
      case measure => simp [intOf]; omega
    · go_wp2
      go_ret
      exact ⟨rfl, hb⟩

set_option maxHeartbeats 800000 in
set_option maxRecDepth 100000 in
theorem eq_none (ao bo : Option Addr) (c c' : Nat) (w : World) :
    Calls Yba.prog 9 #[.slice ao 0 c, .slice bo 0 c'] w fun e w' => e = .returned (.bool true) ∧ Below w.heap.size w w' := by
  go_enter Yba.func9, Yba.ntmps9
  go_wp2
  refine wp_loop_rounds 1 ?_
  rw [rounds_succ]
  go_wp2
  go_ret
  exact ⟨rfl, Below.refl _ _⟩

end Go.Proofs.Ybulkbsmw
