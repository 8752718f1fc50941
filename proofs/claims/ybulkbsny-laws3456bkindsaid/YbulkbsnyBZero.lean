/-
  The law 'Kind' without an entry: its walk.
-/
import Derived.Test.YbulkbsnyBRel
namespace Go.Proofs.Ybulkbsny
open Go.RowKit Go.Maps

set_option maxHeartbeats 1600000 in
set_option maxRecDepth 100000 in
theorem zero_map (ao : Option Addr) (cap : Nat) (typ : ByteArray) (pick : Int) (w : World) (hp0 : 0 ≤ pick) (hp1 : pick ≤ 255) (ht : typ.size ≤ maxLen) :
    Calls Yba.prog 5 #[.slice ao 0 cap, .string typ, .int .u8 pick, .bool false] w fun e w' => e = .returned (.bool true) ∧ Below w.heap.size w w' := by
  have hmm := @run_makeMap Yba.prog
  obtain ⟨i0, hi, hz0, hz1, hz2⟩ := info_parts Yba.info48
  by_cases hc : pick % 2 = 1
  all_goals
    go_enter Yba.func5, Yba.ntmps5
    go_wp2_with (first | (at_make; refine wpList_make_full _ rfl _ _ 45 rfl w.heap.size 48 i0 (.pointer none) 1 Yba.underlying45 hi hz0 hz1 _ _ _ _ 0 rfl rfl rfl rfl (by rw [hz2]; omega) (by unfold maxLen; omega) (Nat.le_refl _) ?_))
    intro w1 hown hgrow
    have hB1 : Below w.heap.size w w1 := (Below.refl _ _).grown hgrow (Nat.le_refl _) (fun _ h => by cases h)
    have hlt1 : w.heap.size < w1.heap.size := (hown.lt w.heap.size rfl).2
    have R0 := Rel.start (nm := fun _ => ByteArray.empty) hown hB1 hlt1
    have hrun : (Instr.lookup 47 (.map (some w1.heap.size)) (.string typ) false).run Yba.prog ((w1.alloc (.map #[] 0)).alloc (.cells zeroKind 70)) = .ok (.pointer none) ((w1.alloc (.map #[] 0)).alloc (.cells zeroKind 70)) := R0.look typ ht (.cells zeroKind 70)
    have hB : Below w.heap.size w (w1.alloc (.map #[] 0)) := R0.bel
    have hBs := hB.size
    clear hown hgrow hB1 R0
    go_wp2
    refine wp_loop_rounds 1 ?_
    rw [rounds_succ]
    go_wp2
    refine wp_loop_rounds 1 ?_
    rw [rounds_succ]
    go_wp2_with (go_at_call 13; refine (kind_any _ _ (.pointer none) (.pointer none) (.pointer none) _ (.inl ⟨rfl, rfl, rfl⟩) hrun).mono ?_; rintro e w4 ⟨rfl, hB4⟩)
    go_ret
    exact ⟨rfl, (hB.trans (hB4.mono hBs)).alloc (Nat.le_trans hBs hB4.size) _⟩

set_option maxHeartbeats 1600000 in
set_option maxRecDepth 100000 in
theorem zero_nil (ao : Option Addr) (cap : Nat) (typ : ByteArray) (pick : Int) (w : World) (hp0 : 0 ≤ pick) (hp1 : pick ≤ 255) (ht : typ.size ≤ maxLen) :
    Calls Yba.prog 5 #[.slice ao 0 cap, .string typ, .int .u8 pick, .bool true] w fun e w' => e = .returned (.bool true) ∧ Below w.heap.size w w' := by
  obtain ⟨i0, hi, hz0, hz1, hz2⟩ := info_parts Yba.info48
  by_cases hc : pick % 2 = 1
  all_goals
    go_enter Yba.func5, Yba.ntmps5
    go_wp2_with (first | (at_make; refine wpList_make_full _ rfl _ _ 45 rfl w.heap.size 48 i0 (.pointer none) 1 Yba.underlying45 hi hz0 hz1 _ _ _ _ 0 rfl rfl rfl rfl (by rw [hz2]; omega) (by unfold maxLen; omega) (Nat.le_refl _) ?_))
    intro w1 hown hgrow
    have hB : Below w.heap.size w w1 := (Below.refl _ _).grown hgrow (Nat.le_refl _) (fun _ h => by cases h)
    have hBs := hB.size
    have hrun := look_none typ ht (w1.alloc (.cells zeroKind 70))
    clear hown hgrow
    go_wp2
    refine wp_loop_rounds 1 ?_
    rw [rounds_succ]
    go_wp2_with (go_at_call 13; refine (kind_any _ _ (.pointer none) (.pointer none) (.pointer none) _ (.inl ⟨rfl, rfl, rfl⟩) hrun).mono ?_; rintro e w4 ⟨rfl, hB4⟩)
    go_ret
    exact ⟨rfl, (hB.trans (hB4.mono hBs)).alloc (Nat.le_trans hBs hB4.size) _⟩

end Go.Proofs.Ybulkbsny
