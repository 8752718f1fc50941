/-
  The law 'Kind': the method 'kind' by its contract.
-/
import Derived.Test.YbulkbsnyRows
import Derived.WalkKit
import Derived.Maps.Own
import Derived.Maps.OwnSet
import Derived.Maps.Views
import Derived.WalkSmall
import Derived.Deep.QuietTactic
import Derived.BigQuiet
import Derived.LaidEqlPtr
namespace Go.Proofs.Ybulkbsny
open Go.RowKit

theorem Yba.has57 : (Yba.prog.info? 57).isSome = true := by kernel_rfl
theorem Yba.has64 : (Yba.prog.info? 64).isSome = true := by kernel_rfl
theorem Yba.has68 : (Yba.prog.info? 68).isSome = true := by kernel_rfl
/-- A pointer equals itself, at the three pointer types of the law. -/
theorem eq48 (a : Option Addr) (w : World) : (binOp .eql 48 (.pointer a) (.pointer a)).run Yba.prog w = .ok (.bool true) w := by
  obtain ⟨j, hj⟩ := Option.isSome_iff_exists.1 Yba.has57
  cases a with
  | some a => exact run_eql_ptr_same w a Yba.underlying48 hj
  | none => exact run_eql_pointer_nil w 48 none (by kernel_rfl)
theorem eq54 (a : Option Addr) (w : World) : (binOp .eql 54 (.pointer a) (.pointer a)).run Yba.prog w = .ok (.bool true) w := by
  obtain ⟨j, hj⟩ := Option.isSome_iff_exists.1 Yba.has64
  cases a with
  | some a => exact run_eql_ptr_same w a Yba.underlying54 hj
  | none => exact run_eql_pointer_nil w 54 none (by kernel_rfl)
theorem eq59 (a : Option Addr) (w : World) : (binOp .eql 59 (.pointer a) (.pointer a)).run Yba.prog w = .ok (.bool true) w := by
  obtain ⟨j, hj⟩ := Option.isSome_iff_exists.1 Yba.has68
  cases a with
  | some a => exact run_eql_ptr_same w a Yba.underlying59 hj
  | none => exact run_eql_pointer_nil w 59 none (by kernel_rfl)

/-- The zero block kind, cell by cell. -/
def zeroKind : Array Value := #[.pointer none, .pointer none, .bool false, .pointer none, .pointer none]

set_option maxHeartbeats 800000 in
set_option maxRecDepth 100000 in
theorem kind_none (mv : Value) (s : ByteArray) (w : World)
    (hrun : (Instr.lookup 47 mv (.string s) false).run Yba.prog (w.alloc (.cells zeroKind 70)) = .ok (.pointer none) (w.alloc (.cells zeroKind 70))) :
    Calls Yba.prog 13 #[mv, .string s] w fun e w' => e = .returned (.agg #[.pointer none, .pointer none, .bool false, .pointer none, .pointer none]) ∧ Below w.heap.size w w' := by
  unfold zeroKind at hrun
  go_enter Yba.func13, Yba.ntmps13
  go_wp2
  exact bodyPost_ret (v := .agg #[.pointer none, .pointer none, .bool false, .pointer none, .pointer none]) (by simp [results, Yba.results13, go_sem]) rfl ⟨rfl, (Below.refl _ _).alloc (Nat.le_refl _) _⟩

set_option maxHeartbeats 800000 in
set_option maxRecDepth 100000 in
theorem kind_bare (mv : Value) (s : ByteArray) (b : Nat) (w : World) (hb : b < w.heap.size)
    (hrun : (Instr.lookup 47 mv (.string s) false).run Yba.prog (w.alloc (.cells zeroKind 70)) = .ok (.pointer (some ⟨b, 0, none⟩)) (w.alloc (.cells zeroKind 70)))
    (h5 : w.cell? ⟨b, 5, none⟩ = some (.pointer none)) :
    Calls Yba.prog 13 #[mv, .string s] w fun e w' => e = .returned (.agg #[.pointer none, .pointer none, .bool false, .pointer (some ⟨b, 0, none⟩), .pointer none]) ∧ Below w.heap.size w w' := by
  unfold zeroKind at hrun
  go_enter Yba.func13, Yba.ntmps13
  go_wp2
  exact bodyPost_ret (v := .agg #[.pointer none, .pointer none, .bool false, .pointer (some ⟨b, 0, none⟩), .pointer none]) (by simp [results, Yba.results13, go_sem]) rfl ⟨rfl, ((Below.refl _ _).alloc (Nat.le_refl _) _)⟩

set_option maxHeartbeats 800000 in
set_option maxRecDepth 100000 in
theorem kind_decl (mv : Value) (s : ByteArray) (b d : Nat) (so : Option Addr) (w : World) (hb : b < w.heap.size) (hd : d < w.heap.size)
    (hrun : (Instr.lookup 47 mv (.string s) false).run Yba.prog (w.alloc (.cells zeroKind 70)) = .ok (.pointer (some ⟨b, 0, none⟩)) (w.alloc (.cells zeroKind 70)))
    (h5 : w.cell? ⟨b, 5, none⟩ = some (.pointer (some ⟨d, 0, none⟩))) (h2 : w.cell? ⟨d, 2, none⟩ = some (.pointer so)) :
    Calls Yba.prog 13 #[mv, .string s] w fun e w' => e = .returned (.agg #[.pointer so, .pointer none, .bool false, .pointer (some ⟨b, 0, none⟩), .pointer (some ⟨d, 0, none⟩)]) ∧ Below w.heap.size w w' := by
  unfold zeroKind at hrun
  go_enter Yba.func13, Yba.ntmps13
  go_wp2
  go_region
  go_wp2
  exact bodyPost_ret (v := .agg #[.pointer so, .pointer none, .bool false, .pointer (some ⟨b, 0, none⟩), .pointer (some ⟨d, 0, none⟩)]) (by simp [results, Yba.results13, go_sem]) rfl ⟨rfl, ((Below.refl _ _).alloc (Nat.le_refl _) _).drew⟩

/-- A schema file's pointer, what its declaration's settings are, and its declaration. -/
def FileAt (w : World) (v sv dv : Value) : Prop :=
  (v = .pointer none ∧ sv = .pointer none ∧ dv = .pointer none) ∨
  (∃ b, v = .pointer (some ⟨b, 0, none⟩) ∧ w.cell? ⟨b, 5, none⟩ = some (.pointer none) ∧ sv = .pointer none ∧ dv = .pointer none) ∨
  ∃ b d so, v = .pointer (some ⟨b, 0, none⟩) ∧ w.cell? ⟨b, 5, none⟩ = some (.pointer (some ⟨d, 0, none⟩)) ∧ w.cell? ⟨d, 2, none⟩ = some (.pointer so) ∧ sv = .pointer so ∧ dv = .pointer (some ⟨d, 0, none⟩)

theorem kind_any (mv : Value) (s : ByteArray) (v sv dv : Value) (w : World) (h : FileAt w v sv dv)
    (hrun : (Instr.lookup 47 mv (.string s) false).run Yba.prog (w.alloc (.cells zeroKind 70)) = .ok v (w.alloc (.cells zeroKind 70))) :
    Calls Yba.prog 13 #[mv, .string s] w fun e w' => e = .returned (.agg #[sv, .pointer none, .bool false, v, dv]) ∧ Below w.heap.size w w' := by
  rcases h with ⟨rfl, rfl, rfl⟩ | ⟨b, rfl, h5, rfl, rfl⟩ | ⟨b, d, so, rfl, h5, h2, rfl, rfl⟩
  · exact kind_none mv s w hrun
  · exact kind_bare mv s b w (World.block_lt_of_cell? w _ h5) hrun h5
  · exact kind_decl mv s b d so w (World.block_lt_of_cell? w _ h5) (World.block_lt_of_cell? w _ h2) hrun h5 h2

end Go.Proofs.Ybulkbsny
