/-
  'member' and the law's own comparison of two values, by their contracts.
-/
import Derived.Test.YbulkbsnyAParts
namespace Go.Proofs.Ybulkbsny
open Go.RowKit

/-- The cells of a member's value; of the zero value. -/
def Mem.val (m : Mem) : Array Value := #[.int .u8 m.kind, .int .i64 m.voff, .string m.text, .bool m.flag, .slice none 0 0, .slice none 0 0]
def zeroVal : Array Value := #[.int .u8 0, .int .i64 0, .string ⟨#[]⟩, .bool false, .slice none 0 0, .slice none 0 0]

set_option maxHeartbeats 800000 in
set_option maxRecDepth 100000 in
theorem member_none (V F n : Nat) (m : Nat → Mem) (t : ByteArray) (w : World) (hn : n ≤ 1024) (hl : lastI m t n = none) (hF : F < w.heap.size) (hVl : V < w.heap.size)
    (hv : w.cell? ⟨V, 5, none⟩ = some (.slice (some ⟨F, 0, none⟩) n n)) (hm : ∀ i, i < n → MemAt w F i (m i)) :
    Calls Yba.prog 8 #[.pointer (some ⟨V, 0, none⟩), .string t] w fun e w' => e = .returned (.tuple #[.agg zeroVal, .int .i64 0]) ∧ Below w.heap.size w w' := by
  have HL : Hid (lastI m t n = none) := hl
  have hlk : ∀ o : Obj, Calls Yba.prog 14 #[.pointer (some ⟨V, 0, none⟩), .string t] (w.alloc o) fun e w' => e = .returned (.pointer none) ∧ w' = w.alloc o := fun o => by
    have := lookup_any V F n m t (w.alloc o) hn (by rw [World.cell?_alloc_past _ _ _ hVl]; exact hv) (fun i hi => by rw [World.cell?_alloc_past _ _ _ hF]; exact (hm i hi).c0)
    rw [hl] at this; exact this
  clear hm hl
  go_enter Yba.func8, Yba.ntmps8
  go_wp2_with (go_at_call 14; refine (hlk _).mono ?_; rintro e w' ⟨rfl, rfl⟩)
  exact bodyPost_ret (v := .tuple #[.agg zeroVal, .int .i64 0]) (by simp [results, Yba.results8, go_sem, zeroVal]) rfl ⟨rfl, (Below.refl _ _).alloc (Nat.le_refl _) _⟩

set_option maxHeartbeats 800000 in
set_option maxRecDepth 100000 in
theorem member_some (V F n q : Nat) (m : Nat → Mem) (t : ByteArray) (w : World) (hn : n ≤ 1024) (hl : lastI m t n = some q) (hF : F < w.heap.size) (hVl : V < w.heap.size)
    (hv : w.cell? ⟨V, 5, none⟩ = some (.slice (some ⟨F, 0, none⟩) n n)) (hm : ∀ i, i < n → MemAt w F i (m i)) :
    Calls Yba.prog 8 #[.pointer (some ⟨V, 0, none⟩), .string t] w fun e w' => e = .returned (.tuple #[.agg (m q).val, .int .i64 (m q).off]) ∧ Below w.heap.size w w' := by
  have hq := lastI_lt m t q n hl
  have hlk : ∀ o : Obj, Calls Yba.prog 14 #[.pointer (some ⟨V, 0, none⟩), .string t] (w.alloc o) fun e w' => e = .returned (.pointer (some ⟨F, q * 8, none⟩)) ∧ w' = w.alloc o := fun o => by
    have := lookup_any V F n m t (w.alloc o) hn (by rw [World.cell?_alloc_past _ _ _ hVl]; exact hv) (fun i hi => by rw [World.cell?_alloc_past _ _ _ hF]; exact (hm i hi).c0)
    rw [hl] at this; exact this
  obtain ⟨c0, c1, c2, c3, c4, c5, c6, c7⟩ := hm q hq
  clear hm hl
  go_enter Yba.func8, Yba.ntmps8
  go_wp2_with (go_at_call 14; refine (hlk _).mono ?_; rintro e w' ⟨rfl, rfl⟩)
  go_region
  go_wp2
  exact bodyPost_ret (v := .tuple #[.agg (m q).val, .int .i64 (m q).off]) (by simp [results, Yba.results8, go_sem, Mem.val]) rfl ⟨rfl, ((Below.refl _ _).alloc (Nat.le_refl _) _).drew⟩

theorem nil24 (w : World) : (binOp .eql 24 (.slice none 0 0) (.slice none 0 0)).run Yba.prog w = .ok (.bool true) w := by kernel_rfl
theorem nil25 (w : World) : (binOp .eql 25 (.slice none 0 0) (.slice none 0 0)).run Yba.prog w = .ok (.bool true) w := by kernel_rfl

set_option maxHeartbeats 800000 in
set_option maxRecDepth 100000 in
theorem eq_self (k o : Int) (t : ByteArray) (f : Bool) (w : World) :
    Calls Yba.prog 10 #[.agg #[.int .u8 k, .int .i64 o, .string t, .bool f, .slice none 0 0, .slice none 0 0], .agg #[.int .u8 k, .int .i64 o, .string t, .bool f, .slice none 0 0, .slice none 0 0]] w fun e w' => e = .returned (.bool true) ∧ Below w.heap.size w w' := by
  have n24 := nil24
  have n25 := nil25
  go_enter Yba.func10, Yba.ntmps10
  go_wp2
  go_ret
  exact ⟨rfl, ((Below.refl _ _).alloc (Nat.le_refl _) _).alloc (by simp) _⟩

end Go.Proofs.Ybulkbsny
