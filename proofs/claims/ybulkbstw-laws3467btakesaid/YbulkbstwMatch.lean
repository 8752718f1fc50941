/-
  The law's own comparison of a task list with a slice of tasks, by its contract.
-/
import Derived.Test.YbulkbstwParts
namespace Go.Proofs.Ybulkbstw
open Go.RowKit

theorem Yba.has37 : (Yba.prog.info? 37).isSome = true := by kernel_rfl
theorem eq23 (a : Addr) (w : World) : (binOp .eql 23 (.pointer (some a)) (.pointer (some a))).run Yba.prog w = .ok (.bool true) w := by
  obtain ⟨j, hj⟩ := Option.isSome_iff_exists.1 Yba.has37
  exact run_eql_ptr_same w a Yba.underlying23 hj
theorem neq23 (a : Addr) (w : World) : (binOp .neq 23 (.pointer (some a)) (.pointer (some a))).run Yba.prog w = .ok (.bool false) w := by
  obtain ⟨j, hj⟩ := Option.isSome_iff_exists.1 Yba.has37
  have h : ∀ d : Nat, (Op.equalIn (d + 1) 23 (.pointer (some a)) (.pointer (some a))).run Yba.prog w = .ok true w := fun d => by
    simp [Op.equalIn, run_underlying Yba.underlying23, sizeOf, typeInfo, hj, run_sameAddr_same]
  simp only [binOp]
  simp [Op.equal, Op.maxDepth, h 9999]

/-- The task at place j of a chain of len tasks, or nil behind its end. -/
def nxt (bs : Nat → Nat) (len j : Nat) : Value := if j = len then .pointer none else pt (bs j)

set_option maxHeartbeats 800000 in
set_option maxRecDepth 100000 in
theorem match_zero (ao : Option Addr) (c : Nat) (w : World) :
    Calls Yba.prog 9 #[.agg #[.pointer none, .pointer none, .int .i64 0], .slice ao 0 c] w fun e w' => e = .returned (.bool true) ∧ Below w.heap.size w w' := by
  go_enter Yba.func9, Yba.ntmps9
  go_wp2
  go_ret
  exact ⟨rfl, (Below.refl _ _).alloc (Nat.le_refl _) _⟩

set_option maxHeartbeats 1600000 in
set_option maxRecDepth 100000 in
theorem match_some (T off len c : Nat) (bs : Nat → Nat) (w : World) (hl : 0 < len) (hm : len ≤ 1024) (hT : T < w.heap.size)
    (hw : ∀ j, j < len → w.cell? ⟨T, off + j, none⟩ = some (pt (bs j))) (hn : ∀ j, j < len → w.cell? ⟨bs j, 2, none⟩ = some (nxt bs len (j + 1))) :
    Calls Yba.prog 9 #[.agg #[pt (bs 0), pt (bs (len - 1)), .int .i64 len], .slice (some ⟨T, off, none⟩) len c] w fun e w' => e = .returned (.bool true) ∧ Below w.heap.size w w' := by
  have e23 := eq23
  have n23 := neq23
  have hl' : ((len : Int) == 0) = false := by simp; omega
  unfold pt
  go_enter Yba.func9, Yba.ntmps9
  go_wp2
  go_loop [5, 6] (fun x i => ∃ j : Nat, j ≤ len ∧ i = .int .i64 j ∧ x = nxt bs len j) (fun _ i => len - (intOf i).toNat)
  case atStart => exact ⟨0, Nat.zero_le _, rfl, by unfold nxt; rw [if_neg (by omega)]; rfl⟩
  case round =>
    obtain ⟨j, hj, rfl, hx⟩ := hrel
    by_cases hlt : j < len
    · have cj : w.cell? ⟨T, off + j, none⟩ = some (.pointer (some ⟨bs j, 0, none⟩)) := hw j hlt
      obtain ⟨y, hy⟩ : ∃ y : Option Addr, nxt bs len (j + 1) = .pointer y := by unfold nxt pt; split <;> exact ⟨_, rfl⟩
      have dj : w.cell? ⟨bs j, 2, none⟩ = some (.pointer y) := by rw [← hy]; exact hn j hlt
      have hb : bs j < w.heap.size := World.block_lt_of_cell? w _ dj
      have hx' : nxt bs len j = .pointer (some ⟨bs j, 0, none⟩) := by unfold nxt; rw [if_neg (by omega)]; rfl
      rw [hx, hx']
      have HY : Hid (nxt bs len (j + 1) = .pointer y) := hy
      have hlt' : (j : Int) < (len : Int) := by omega
      clear hx hx' hw hn hy
      go_wp2
      go_round
      case rel => exact ⟨j + 1, by omega, by go_num, HY.out.symm⟩
      case measure => simp [intOf]; omega
    · obtain rfl : j = len := by omega
      have hx' : nxt bs j j = .pointer none := by unfold nxt; rw [if_pos rfl]
      rw [hx, hx']
      obtain ⟨q, rfl⟩ : ∃ q, j = q + 1 := ⟨j - 1, by omega⟩
      have cl : w.cell? ⟨T, off + q, none⟩ = some (.pointer (some ⟨bs q, 0, none⟩)) := hw q (by omega)
      have hq0 : (0 : Int) ≤ (q : Int) := by omega
      have hq1 : (q : Int) < (q : Int) + 1 := by omega
      clear hx hx' hw hn
      go_wp2
      go_quiet (fail)
      go_wp2
      go_ret
      exact ⟨rfl, below_drewN ((Below.refl _ _).alloc (Nat.le_refl _) _) _⟩

end Go.Proofs.Ybulkbstw
