/-
  The walk of the law's own builder.
-/
import Derived.Test.YbulkbsnyABuild
namespace Go.Proofs.Ybulkbsny
open Go.RowKit

/-- The object that the builder hands back. -/
def objVal (F n : Nat) : Array Value := #[.int .u8 5, .int .i64 0, .string ⟨#[]⟩, .bool false, .slice none 0 0, .slice (some ⟨F, 0, none⟩) n n]

theorem built_start {w w1 : World} {n : Nat} {m : Nat → Mem} {L : List Value} (hown : w1.ownsRow w.heap.size 36 8 (.slice (some ⟨w.heap.size + 1, 0, none⟩) n n) n L) (hgrow : (w.alloc (.cells zeroVal 27)).grownBy w1 none) : Built w n m 0 L w1 :=
  ⟨hown, fun _ h => by omega, (hgrow.block w.heap.size (by simp) (by simp)).trans (heap_alloc_new w _), ((Below.refl _ _).alloc (Nat.le_refl _) _).grown hgrow (by simp) (fun _ h => by cases h)⟩

theorem MemAt.res_put {w : World} {F i R : Nat} {m : Mem} (h : MemAt w F i m) (hne : R ≠ F) (v0 v1 v2 v3 v4 v5 : Value) :
    MemAt ((((((w.setCell ⟨R, 0, none⟩ v0).setCell ⟨R, 1, none⟩ v1).setCell ⟨R, 2, none⟩ v2).setCell ⟨R, 3, none⟩ v3).setCell ⟨R, 4, none⟩ v4).setCell ⟨R, 5, none⟩ v5) F i m := by
  have key : ∀ o, ((((((w.setCell ⟨R, 0, none⟩ v0).setCell ⟨R, 1, none⟩ v1).setCell ⟨R, 2, none⟩ v2).setCell ⟨R, 3, none⟩ v3).setCell ⟨R, 4, none⟩ v4).setCell ⟨R, 5, none⟩ v5).cell? ⟨F, o, none⟩ = w.cell? ⟨F, o, none⟩ := fun o => by
    have hx : ∀ a b : Nat, (⟨R, a, none⟩ : Addr) ≠ ⟨F, b, none⟩ := fun a b e => by simp only [Addr.mk.injEq] at e; exact hne e.1
    rw [World.cell?_setCell_other _ _ _ _ (hx _ _), World.cell?_setCell_other _ _ _ _ (hx _ _), World.cell?_setCell_other _ _ _ _ (hx _ _), World.cell?_setCell_other _ _ _ _ (hx _ _), World.cell?_setCell_other _ _ _ _ (hx _ _), World.cell?_setCell_other _ _ _ _ (hx _ _)]
  exact ⟨(key _).trans h.c0, (key _).trans h.c1, (key _).trans h.c2, (key _).trans h.c3, (key _).trans h.c4, (key _).trans h.c5, (key _).trans h.c6, (key _).trans h.c7⟩

set_option maxHeartbeats 3200000 in
set_option maxRecDepth 100000 in
theorem build_some (b off n cap : Nat) (r : Nat → Raw) (raw : ByteArray) (w : World) (hn : n ≤ 1024) (hb : b < w.heap.size) (hr : ∀ i, i < n → RawAt w b (off + i * 6) (r i)) :
    Calls Yba.prog 6 #[.slice (some ⟨b, off, none⟩) n cap, .string raw] w fun e w' =>
      e = .returned (.agg (objVal (w.heap.size + 1) n)) ∧ (∀ i, i < n → MemAt w' (w.heap.size + 1) i ((r i).mem raw)) ∧ Below w.heap.size w w' := by
  obtain ⟨i0, hi, hz0, hz1, hz2⟩ := info_parts Yba.info36
  go_enter Yba.func6, Yba.ntmps6
  go_wp2_with (first | (at_make; refine wpList_make_full _ rfl _ _ 25 rfl w.heap.size 36 i0 zeroMember 8 Yba.underlying25 hi hz0 hz1 _ _ _ _ n rfl rfl rfl rfl (by rw [hz2]; omega) (by unfold maxLen; omega) (by simp) ?_))
  intro w1 hown hgrow
  have R0 : Built w n (fun i => (r i).mem raw) 0 _ w1 := built_start hown hgrow
  clear hown hgrow
  go_wp2
  go_loopw [6] (fun i wr => ∃ (k : Nat) (xs : List Value), k ≤ n ∧ i = .int .i64 k ∧ Built w n (fun i => (r i).mem raw) k xs wr) (fun i _ => n - (intOf i).toNat)
  case atStart => exact ⟨0, _, Nat.zero_le _, rfl, R0⟩
  case round =>
    obtain ⟨k, xs, hk, rfl, hR⟩ := hrel
    clear R0
    by_cases hlt : k < n
    · obtain ⟨c0, c1, c2, c3, c4, c5, hK0, hK1, hD0, hD1⟩ := (hr k hlt).later hR.bel hb
      have hFl := hR.lt
      have hbw : b < wr.heap.size := by omega
      have hlt' : (k : Int) < (n : Int) := by omega
      have hk0 : (0 : Int) ≤ (k : Int) := by omega
      have hmod : (r k).kind.tmod 6 = (r k).kind % 6 := Int.tmod_eq_emod_of_nonneg hD0
      obtain ⟨u0, e0⟩ := hR.cell (k * 8) (by omega)
      obtain ⟨u1, e1⟩ := hR.cell (k * 8 + 1) (by omega)
      obtain ⟨u2, e2⟩ := hR.cell (k * 8 + 2) (by omega)
      obtain ⟨u3, e3⟩ := hR.cell (k * 8 + 3) (by omega)
      obtain ⟨u4, e4⟩ := hR.cell (k * 8 + 4) (by omega)
      obtain ⟨u5, e5⟩ := hR.cell (k * 8 + 5) (by omega)
      obtain ⟨u6, e6⟩ := hR.cell (k * 8 + 6) (by omega)
      obtain ⟨u7, e7⟩ := hR.cell (k * 8 + 7) (by omega)
      have hfz : ∀ j, wr.frozen? ⟨w.heap.size + 1, j, none⟩ = false := hR.own.frozenAt
      have HR : Hid (Built w n (fun i => (r i).mem raw) k xs wr) := hR
      clear hr hR
      go_wp2
      go_region_held3 (fun w' => w'.cell? ⟨wr.heap.size, 0, none⟩ = some (.int .u8 (r k).k) ∧ w'.cell? ⟨wr.heap.size, 1, none⟩ = some (.int .i64 (r k).off) ∧ w'.cell? ⟨wr.heap.size, 2, none⟩ = some (.int .u8 (r k).kind) ∧ w'.cell? ⟨wr.heap.size, 3, none⟩ = some (.int .i64 (r k).voff) ∧ w'.cell? ⟨wr.heap.size, 4, none⟩ = some (.string (r k).text) ∧ w'.cell? ⟨wr.heap.size, 5, none⟩ = some (.bool (r k).flag))
        (first | exact ⟨keep_new _ (by simp [World.setCell]) 0 _ rfl, keep_new _ (by simp [World.setCell]) 1 _ rfl, keep_new _ (by simp [World.setCell]) 2 _ rfl, keep_new _ (by simp [World.setCell]) 3 _ rfl, keep_new _ (by simp [World.setCell]) 4 _ rfl, keep_new _ (by simp [World.setCell]) 5 _ rfl⟩ | go_keep)
        (first | (go_at_call 7; refine (key_any _ _ _ hK0 hK1).mono ?_; rintro e w' ⟨rfl, rfl⟩))
      have R := HR.out.step hlt #[.int .u8 (r k).k, .int .i64 (r k).off, .int .u8 (r k).kind, .int .i64 (r k).voff, .string (r k).text, .bool (r k).flag]
      clear HR e0 e1 e2 e3 e4 e5 e6 e7 hfz c0 c1 c2 c3 c4 c5
      go_wp2
      go_roundw
      case rel => exact ⟨k + 1, _, by omega, by go_num, R⟩
      case measure => simp [intOf]; omega
    · obtain rfl : k = n := by omega
      have q0 : wr.cell? ⟨w.heap.size, 0, none⟩ = some (.int .u8 0) := by simp [World.cell?, hR.res, zeroVal]
      have q1 : wr.cell? ⟨w.heap.size, 1, none⟩ = some (.int .i64 0) := by simp [World.cell?, hR.res, zeroVal]
      have q2 : wr.cell? ⟨w.heap.size, 2, none⟩ = some (.string ⟨#[]⟩) := by simp [World.cell?, hR.res, zeroVal]
      have q3 : wr.cell? ⟨w.heap.size, 3, none⟩ = some (.bool false) := by simp [World.cell?, hR.res, zeroVal]
      have q4 : wr.cell? ⟨w.heap.size, 4, none⟩ = some (.slice none 0 0) := by simp [World.cell?, hR.res, zeroVal]
      have q5 : wr.cell? ⟨w.heap.size, 5, none⟩ = some (.slice none 0 0) := by simp [World.cell?, hR.res, zeroVal]
      have qf : ∀ j, wr.frozen? ⟨w.heap.size, j, none⟩ = false := fun j => by simp [World.frozen?, hR.res]
      go_wp2
      refine bodyPost_ret (v := .agg (objVal (w.heap.size + 1) k)) (by simp [results, Yba.results6, go_sem, objVal, q0, q1, q2, q3, q4, q5]) rfl ⟨rfl, fun i hi => ?_, ?_⟩
      · exact (hR.memAt (Nat.le_refl _) i hi).res_put (by omega) _ _ _ _ _ _
      · exact (((((hR.bel.setCell (Nat.le_refl _) _).setCell (Nat.le_refl _) _).setCell (Nat.le_refl _) _).setCell (Nat.le_refl _) _).setCell (Nat.le_refl _) _).setCell (Nat.le_refl _) _

set_option maxHeartbeats 800000 in
set_option maxRecDepth 100000 in
theorem build_none (ao : Option Addr) (cap : Nat) (raw : ByteArray) (w : World) :
    Calls Yba.prog 6 #[.slice ao 0 cap, .string raw] w fun e w' => e = .returned (.agg (objVal (w.heap.size + 1) 0)) ∧ Below w.heap.size w w' ∧ w.heap.size + 1 < w'.heap.size := by
  obtain ⟨i0, hi, hz0, hz1, hz2⟩ := info_parts Yba.info36
  go_enter Yba.func6, Yba.ntmps6
  go_wp2_with (first | (at_make; refine wpList_make_full _ rfl _ _ 25 rfl w.heap.size 36 i0 zeroMember 8 Yba.underlying25 hi hz0 hz1 _ _ _ _ 0 rfl rfl rfl rfl (by rw [hz2]; omega) (by unfold maxLen; omega) (by simp) ?_))
  intro w1 hown hgrow
  have hR : Built w 0 (fun _ => (Raw.mem ⟨0, 0, 0, 0, raw, false⟩ raw)) 0 _ w1 := built_start hown hgrow
  have q0 : w1.cell? ⟨w.heap.size, 0, none⟩ = some (.int .u8 0) := by simp [World.cell?, hR.res, zeroVal]
  have q1 : w1.cell? ⟨w.heap.size, 1, none⟩ = some (.int .i64 0) := by simp [World.cell?, hR.res, zeroVal]
  have q2 : w1.cell? ⟨w.heap.size, 2, none⟩ = some (.string ⟨#[]⟩) := by simp [World.cell?, hR.res, zeroVal]
  have q3 : w1.cell? ⟨w.heap.size, 3, none⟩ = some (.bool false) := by simp [World.cell?, hR.res, zeroVal]
  have q4 : w1.cell? ⟨w.heap.size, 4, none⟩ = some (.slice none 0 0) := by simp [World.cell?, hR.res, zeroVal]
  have q5 : w1.cell? ⟨w.heap.size, 5, none⟩ = some (.slice none 0 0) := by simp [World.cell?, hR.res, zeroVal]
  have qf : ∀ j, w1.frozen? ⟨w.heap.size, j, none⟩ = false := fun j => by simp [World.frozen?, hR.res]
  have hlt := hR.lt
  have hB := hR.bel
  clear hown hgrow hR
  go_wp2
  refine wp_loop_rounds 1 ?_
  rw [rounds_succ]
  go_wp2
  refine bodyPost_ret (v := .agg (objVal (w.heap.size + 1) 0)) (by simp [results, Yba.results6, go_sem, objVal, q0, q1, q2, q3, q4, q5]) rfl ⟨rfl, ?_, by simp [World.setCell]; omega⟩
  exact (((((hB.setCell (Nat.le_refl _) _).setCell (Nat.le_refl _) _).setCell (Nat.le_refl _) _).setCell (Nat.le_refl _) _).setCell (Nat.le_refl _) _).setCell (Nat.le_refl _) _

/-- What came in: at most 1024 elements, each a 'Raw'. -/
def Elems (w : World) (ao : Option Addr) (n : Nat) (r : Nat → Raw) : Prop :=
  0 < n → ∃ b off, ao = some ⟨b, off, none⟩ ∧ ∀ i, i < n → RawAt w b (off + i * 6) (r i)

theorem build_any (ao : Option Addr) (n cap : Nat) (r : Nat → Raw) (raw : ByteArray) (w : World) (hn : n ≤ 1024) (hr : Elems w ao n r) :
    Calls Yba.prog 6 #[.slice ao n cap, .string raw] w fun e w' =>
      e = .returned (.agg (objVal (w.heap.size + 1) n)) ∧ (∀ i, i < n → MemAt w' (w.heap.size + 1) i ((r i).mem raw)) ∧ Below w.heap.size w w' ∧ w.heap.size + 1 < w'.heap.size := by
  by_cases h0 : 0 < n
  · obtain ⟨b, off, rfl, hc⟩ := hr h0
    refine (build_some b off n cap r raw w hn (World.block_lt_of_cell? w _ (hc 0 h0).c0) hc).mono ?_
    rintro e w' ⟨rfl, hm, hb⟩
    exact ⟨rfl, hm, hb, World.block_lt_of_cell? w' _ (hm 0 h0).c0⟩
  · obtain rfl : n = 0 := by omega
    refine (build_none ao cap raw w).mono ?_
    rintro e w' ⟨rfl, hb, hl⟩
    exact ⟨rfl, fun i hi => by omega, hb, hl⟩

end Go.Proofs.Ybulkbsny
