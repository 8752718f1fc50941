/-
  The task list's push and pop, and the atomic length, each by its contract.
-/
import Derived.Test.YbulkbstwRows
import Derived.WalkKit
import Derived.WalkSmall
import Derived.Laws.LoneSync
import Derived.LaidEqlPtr
import Derived.Deep.QuietTactic
import Derived.BigQuiet
namespace Go.Proofs.Ybulkbstw
open Go.RowKit

/-- A pointer to the block b. -/
def pt (b : Nat) : Value := .pointer (some ⟨b, 0, none⟩)

/-- The world behind 'push' onto the list in block L: onto an empty list, or behind the task in block c. -/
def pushW (w : World) (L : Nat) (c : Option Nat) (p : Value) (n : Int) : World :=
  match c with
  | none => ((w.setCell ⟨L, 0, none⟩ p).setCell ⟨L, 1, none⟩ p).setCell ⟨L, 2, none⟩ (.int .i64 (n + 1))
  | some c => ((w.setCell ⟨c, 2, none⟩ p).setCell ⟨L, 1, none⟩ p).setCell ⟨L, 2, none⟩ (.int .i64 (n + 1))

/-- The world behind 'pop' of the task in block c off the list in block L: the last task, or one before the task in block d. -/
def popW (w : World) (L c : Nat) (d : Option Nat) (n : Int) : World :=
  match d with
  | none => (((w.setCell ⟨L, 0, none⟩ (.pointer none)).setCell ⟨L, 1, none⟩ (.pointer none)).setCell ⟨c, 2, none⟩ (.pointer none)).setCell ⟨L, 2, none⟩ (.int .i64 (n - 1))
  | some d => ((w.setCell ⟨L, 0, none⟩ (pt d)).setCell ⟨c, 2, none⟩ (.pointer none)).setCell ⟨L, 2, none⟩ (.int .i64 (n - 1))

set_option maxHeartbeats 800000 in
set_option maxRecDepth 100000 in
theorem push_empty (L b : Nat) (n : Int) (h : Value) (w : World) (h0 : 0 ≤ n) (h1 : n ≤ 2000)
    (c0 : w.cell? ⟨L, 0, none⟩ = some h) (c1 : w.cell? ⟨L, 1, none⟩ = some (.pointer none)) (c2 : w.cell? ⟨L, 2, none⟩ = some (.int .i64 n)) (hf : ∀ j, w.frozen? ⟨L, j, none⟩ = false) :
    Calls Yba.prog 5 #[.pointer (some ⟨L, 0, none⟩), pt b] w fun e w' => e = .returned (.tuple #[]) ∧ w' = pushW w L none (pt b) n := by
  unfold pt pushW
  go_enter Yba.func5, Yba.ntmps5
  go_wp2
  go_end0
  exact ⟨rfl, rfl⟩

set_option maxHeartbeats 800000 in
set_option maxRecDepth 100000 in
theorem push_more (L b c : Nat) (n : Int) (u : Value) (w : World) (h0 : 0 ≤ n) (h1 : n ≤ 2000) (hne : L ≠ c)
    (c1 : w.cell? ⟨L, 1, none⟩ = some (pt c)) (c2 : w.cell? ⟨L, 2, none⟩ = some (.int .i64 n)) (hf : ∀ j, w.frozen? ⟨L, j, none⟩ = false)
    (d2 : w.cell? ⟨c, 2, none⟩ = some u) (df : w.frozen? ⟨c, 2, none⟩ = false) :
    Calls Yba.prog 5 #[.pointer (some ⟨L, 0, none⟩), pt b] w fun e w' => e = .returned (.tuple #[]) ∧ w' = pushW w L (some c) (pt b) n := by
  unfold pt at c1
  unfold pt pushW
  have hne' : ¬ c = L := fun e => hne e.symm
  have hne2 : ¬ L = c := hne
  go_enter Yba.func5, Yba.ntmps5
  go_wp2
  go_end0
  exact ⟨rfl, rfl⟩

set_option maxHeartbeats 800000 in
set_option maxRecDepth 100000 in
theorem pop_last (L c : Nat) (n : Int) (t : Value) (w : World) (h0 : 0 ≤ n) (h1 : n ≤ 2000) (hne : L ≠ c)
    (c0 : w.cell? ⟨L, 0, none⟩ = some (pt c)) (c1 : w.cell? ⟨L, 1, none⟩ = some t) (c2 : w.cell? ⟨L, 2, none⟩ = some (.int .i64 n)) (hf : ∀ j, w.frozen? ⟨L, j, none⟩ = false)
    (d2 : w.cell? ⟨c, 2, none⟩ = some (.pointer none)) (df : w.frozen? ⟨c, 2, none⟩ = false) :
    Calls Yba.prog 18 #[.pointer (some ⟨L, 0, none⟩)] w fun e w' => e = .returned (pt c) ∧ w' = popW w L c none n := by
  unfold pt at c0
  unfold pt popW
  have hne' : ¬ c = L := fun e => hne e.symm
  have hne2 : ¬ L = c := hne
  go_enter Yba.func18, Yba.ntmps18
  go_wp2
  go_ret
  exact ⟨rfl, rfl⟩

set_option maxHeartbeats 800000 in
set_option maxRecDepth 100000 in
theorem pop_more (L c d : Nat) (n : Int) (w : World) (h0 : 0 ≤ n) (h1 : n ≤ 2000) (hne : L ≠ c)
    (c0 : w.cell? ⟨L, 0, none⟩ = some (pt c)) (c2 : w.cell? ⟨L, 2, none⟩ = some (.int .i64 n)) (hf : ∀ j, w.frozen? ⟨L, j, none⟩ = false)
    (d2 : w.cell? ⟨c, 2, none⟩ = some (pt d)) (df : w.frozen? ⟨c, 2, none⟩ = false) :
    Calls Yba.prog 18 #[.pointer (some ⟨L, 0, none⟩)] w fun e w' => e = .returned (pt c) ∧ w' = popW w L c (some d) n := by
  unfold pt at c0 d2
  unfold pt popW pt
  have hne' : ¬ c = L := fun e => hne e.symm
  have hne2 : ¬ L = c := hne
  go_enter Yba.func18, Yba.ntmps18
  go_wp2
  go_ret
  exact ⟨rfl, rfl⟩

set_option maxHeartbeats 800000 in
set_option maxRecDepth 100000 in
theorem store_any (G : Nat) (x y : Int) (w : World) (hc : w.cell? ⟨G, 3, none⟩ = some (.int .i64 x)) (hf : w.frozen? ⟨G, 3, none⟩ = false) :
    Calls Yba.prog 6 #[.pointer (some ⟨G, 3, none⟩), .int .i64 y] w fun e w' => e = .returned (.tuple #[]) ∧ w' = w.setCell ⟨G, 3, none⟩ (.int .i64 y) := by
  have hst := run_call_store (P := Yba.prog) Yba.func17 (by kernel_rfl) (by kernel_rfl) (by kernel_rfl) (by kernel_rfl) (k := .i64) (y := y) hc hf
  go_enter Yba.func6, Yba.ntmps6
  go_wp2
  go_end0
  exact ⟨rfl, rfl⟩

set_option maxHeartbeats 800000 in
set_option maxRecDepth 100000 in
theorem load_any (G : Nat) (x : Int) (w : World) (hc : w.cell? ⟨G, 3, none⟩ = some (.int .i64 x)) :
    Calls Yba.prog 19 #[.pointer (some ⟨G, 3, none⟩)] w fun e w' => e = .returned (.int .i64 x) ∧ w' = w := by
  have hl := run_call_load (P := Yba.prog) Yba.func29 (by kernel_rfl) (by kernel_rfl) (by kernel_rfl) .i64 (by kernel_rfl) hc
  go_enter Yba.func19, Yba.ntmps19
  go_wp2
  go_ret
  exact ⟨rfl, rfl⟩

set_option maxHeartbeats 800000 in
set_option maxRecDepth 100000 in
theorem len_any (G : Nat) (x : Int) (w : World) (hc : w.cell? ⟨G, 3, none⟩ = some (.int .i64 x)) :
    Calls Yba.prog 8 #[.pointer (some ⟨G, 0, none⟩)] w fun e w' => e = .returned (.int .i64 x) ∧ w' = w := by
  go_enter Yba.func8, Yba.ntmps8
  go_wp2_with (go_at_call 19; refine (load_any G x _ hc).mono ?_; rintro e w' ⟨rfl, rfl⟩)
  go_ret
  exact ⟨rfl, rfl⟩

end Go.Proofs.Ybulkbstw
