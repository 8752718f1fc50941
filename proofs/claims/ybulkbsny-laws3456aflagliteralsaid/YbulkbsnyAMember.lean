/-
  The law 'Member': its walk.
-/
import Derived.Test.YbulkbsnyAMake
namespace Go.Proofs.Ybulkbsny
open Go.RowKit

theorem laid5 (w1 : World) (c : Array Value) (t : TypeId) (j : Nat) (v : Value) (h : c[j]? = some v) : (w1.alloc (.cells c t)).cell? ⟨w1.heap.size, j, none⟩ = some v := by
  rw [World.cell?_alloc_at _ _ _ _ rfl]; exact h

theorem MemAt.later {w w' : World} {F i B : Nat} {m : Mem} (h : MemAt w F i m) (hB : Below B w w') (hF : F < B) : MemAt w' F i m :=
  ⟨(hB.cell hF).trans h.c0, (hB.cell hF).trans h.c1, (hB.cell hF).trans h.c2, (hB.cell hF).trans h.c3, (hB.cell hF).trans h.c4, (hB.cell hF).trans h.c5, (hB.cell hF).trans h.c6, (hB.cell hF).trans h.c7⟩

/-- The cells that the law's last statement reads. -/
def Sees (V F n q G : Nat) (m : Mem) (w' : World) : Prop :=
  w'.cell? ⟨V, 5, none⟩ = some (.slice (some ⟨F, 0, none⟩) n n) ∧ w'.cell? ⟨F, q * 8 + 1, none⟩ = some (.int .i64 m.off) ∧ w'.cell? ⟨F, q * 8 + 2, none⟩ = some (.int .u8 m.kind) ∧ w'.cell? ⟨F, q * 8 + 2 + 1, none⟩ = some (.int .i64 m.voff) ∧ w'.cell? ⟨F, q * 8 + 2 + 2, none⟩ = some (.string m.text) ∧ w'.cell? ⟨F, q * 8 + 2 + 3, none⟩ = some (.bool m.flag) ∧ w'.cell? ⟨F, q * 8 + 2 + 4, none⟩ = some (.slice none 0 0) ∧ w'.cell? ⟨F, q * 8 + 2 + 5, none⟩ = some (.slice none 0 0) ∧
      w'.cell? ⟨G, 0, none⟩ = some (.int .u8 m.kind) ∧ w'.cell? ⟨G, 1, none⟩ = some (.int .i64 m.voff) ∧ w'.cell? ⟨G, 2, none⟩ = some (.string m.text) ∧ w'.cell? ⟨G, 3, none⟩ = some (.bool m.flag) ∧ w'.cell? ⟨G, 4, none⟩ = some (.slice none 0 0) ∧ w'.cell? ⟨G, 5, none⟩ = some (.slice none 0 0)

theorem Sees.later {V F n q G : Nat} {m : Mem} {W w' : World} (hB : Below W.heap.size W w') (h : Sees V F n q G m W) : Sees V F n q G m w' := by
  have key : ∀ {b o : Nat} {v : Value}, W.cell? ⟨b, o, none⟩ = some v → w'.cell? ⟨b, o, none⟩ = some v := fun {b o v} hv => (hB.cell (p := ⟨b, o, none⟩) (World.block_lt_of_cell? W _ hv)).trans hv
  obtain ⟨h0, h1, h2, h3, h4, h5, h6, h7, h8, h9, h10, h11, h12, h13⟩ := h
  exact ⟨key h0, key h1, key h2, key h3, key h4, key h5, key h6, key h7, key h8, key h9, key h10, key h11, key h12, key h13⟩

set_option maxHeartbeats 3200000 in
set_option maxRecDepth 100000 in
theorem member_law_some (ao : Option Addr) (n cap q : Nat) (r : Nat → Raw) (k : Int) (raw : ByteArray) (w : World) (hn : n ≤ 1024) (hr : Elems w ao n r) (hk0 : 0 ≤ k) (hk1 : k ≤ 255)
    (hl : lastI (fun i => (r i).mem raw) (keyZ k raw) n = some q) :
    Calls Yba.prog 3 #[.slice ao n cap, .int .u8 k, .string raw] w fun e w' => e = .returned (.bool true) ∧ Below w.heap.size w w' := by
  have hqn := lastI_lt _ _ _ _ hl
  have hq1 : (0 : Int) ≤ (q : Int) := by omega
  have hq2 : (q : Int) < (n : Int) := by omega
  go_enter Yba.func3, Yba.ntmps3
  go_wp2_with fail
  refine (build_any ao n cap r raw w hn hr).mono ?_
  rintro e w1 ⟨rfl, hm0, hB1, hF1⟩
  unfold objVal
  obtain ⟨F, hF⟩ : ∃ F, w.heap.size + 1 = F := ⟨_, rfl⟩
  rw [hF] at hm0 hF1 ⊢
  obtain ⟨M, hM⟩ : ∃ M : Nat → Mem, (fun i => (r i).mem raw) = M := ⟨_, rfl⟩
  rw [hM] at hl
  have hm1 : ∀ i, i < n → MemAt w1 F i (M i) := fun i hi => by rw [← hM]; exact hm0 i hi
  have hFw : w.heap.size < F := by omega
  clear hF hr hM hm0
  go_wp2_with (go_at_call 7; refine (key_any _ _ _ hk0 hk1).mono ?_; rintro e w' ⟨rfl, rfl⟩)
  have hv : ((w1.alloc (.cells (objVal F n) 27))).cell? ⟨w1.heap.size, 5, none⟩ = some (.slice (some ⟨F, 0, none⟩) n n) := laid5 _ _ _ _ _ rfl
  have hB2 : Below w.heap.size w (w1.alloc (.cells (objVal F n) 27)) := hB1.alloc (by omega) _
  have hm2 : ∀ i, i < n → MemAt (w1.alloc (.cells (objVal F n) 27)) F i (M i) := fun i hi => (hm1 i hi).later ((Below.refl w1.heap.size w1).alloc (Nat.le_refl _) _) hF1
  refine (member_some w1.heap.size F n q _ _ _ hn hl (by simp; omega) (by simp) hv hm2).mono ?_
  rintro e w2 ⟨rfl, hB3⟩
  unfold Mem.val
  have hs3 : w1.heap.size + 1 ≤ w2.heap.size := by have := hB3.size; simpa using this
  have hB3' : Below (w1.heap.size + 1) (w1.alloc (.cells (objVal F n) 27)) w2 := by simpa using hB3
  have hv2 : w2.cell? ⟨w1.heap.size, 5, none⟩ = some (.slice (some ⟨F, 0, none⟩) n n) := (hB3'.cell (p := ⟨w1.heap.size, 5, none⟩) (by show w1.heap.size < _; omega)).trans hv
  have hm3 : ∀ i, i < n → MemAt w2 F i (M i) := fun i hi => (hm2 i hi).later hB3' (by omega)
  have hB03 : Below w.heap.size w w2 := hB2.trans (hB3'.mono (by have := hB1.size; omega))
  have hv3 : ∀ o : Obj, (w2.alloc o).cell? ⟨w1.heap.size, 5, none⟩ = some (.slice (some ⟨F, 0, none⟩) n n) := fun o => by rw [World.cell?_alloc_past _ _ _ (by omega)]; exact hv2
  have hm4 : ∀ (o : Obj) (i : Nat), i < n → MemAt (w2.alloc o) F i (M i) := fun o i hi => (hm3 i hi).later ((Below.refl w2.heap.size w2).alloc (Nat.le_refl _) _) (by omega)
  have hlast : ∀ o : Obj, Calls Yba.prog 9 #[.pointer (some ⟨w1.heap.size, 0, none⟩), .string (keyZ k raw)] (w2.alloc o) fun e w' => e = .returned (.int .i64 (q : Int)) ∧ w' = w2.alloc o := fun o => by
    have := last_any w1.heap.size F n M (keyZ k raw) (w2.alloc o) hn (hv3 o) (fun i hi => (hm4 o i hi).c0)
    rw [hl] at this; exact this
  obtain ⟨c0, c1, c2, c3, c4, c5, c6, c7⟩ := hm3 q hqn
  have hFl2 : F < w2.heap.size := by omega
  have hVl2 : w1.heap.size < w2.heap.size := by omega
  clear hm1 hm2 hm3 hm4 hv3 hv hl hB1 hB2 hB3 hB3'
  go_wp2_with (go_at_call 9; refine (hlast _).mono ?_; rintro e w' ⟨rfl, rfl⟩)
  obtain ⟨m, hm⟩ : ∃ m, M q = m := ⟨_, rfl⟩
  rw [hm] at c0 c1 c2 c3 c4 c5 ⊢
  clear hm
  go_region_held3 (fun w' => w'.cell? ⟨w1.heap.size, 5, none⟩ = some (.slice (some ⟨F, 0, none⟩) n n) ∧ w'.cell? ⟨F, q * 8 + 1, none⟩ = some (.int .i64 m.off) ∧ w'.cell? ⟨F, q * 8 + 2, none⟩ = some (.int .u8 m.kind) ∧ w'.cell? ⟨F, q * 8 + 2 + 1, none⟩ = some (.int .i64 m.voff) ∧ w'.cell? ⟨F, q * 8 + 2 + 2, none⟩ = some (.string m.text) ∧ w'.cell? ⟨F, q * 8 + 2 + 3, none⟩ = some (.bool m.flag) ∧ w'.cell? ⟨F, q * 8 + 2 + 4, none⟩ = some (.slice none 0 0) ∧ w'.cell? ⟨F, q * 8 + 2 + 5, none⟩ = some (.slice none 0 0) ∧
      w'.cell? ⟨w2.heap.size, 0, none⟩ = some (.int .u8 m.kind) ∧ w'.cell? ⟨w2.heap.size, 1, none⟩ = some (.int .i64 m.voff) ∧ w'.cell? ⟨w2.heap.size, 2, none⟩ = some (.string m.text) ∧ w'.cell? ⟨w2.heap.size, 3, none⟩ = some (.bool m.flag) ∧ w'.cell? ⟨w2.heap.size, 4, none⟩ = some (.slice none 0 0) ∧ w'.cell? ⟨w2.heap.size, 5, none⟩ = some (.slice none 0 0))
    (first | (exact Sees.later (V := w1.heap.size) (F := F) (n := n) (q := q) (G := w2.heap.size) (m := m) hB' (by first | assumption | (unfold Sees; go_keep))) | go_keep)
    (first | (go_at_call 10; refine (eq_self _ _ _ _ _).mono ?_; rintro e w' ⟨rfl, hB'⟩))
  have hfin : Below w.heap.size w w' := ((hB03.alloc hB03.size _).drew).trans (hB'.mono (by have := hB03.size; simp; omega))
  go_wp2
  go_ret
  exact ⟨rfl, hfin⟩

set_option maxHeartbeats 3200000 in
set_option maxRecDepth 100000 in
theorem member_law_none (ao : Option Addr) (n cap : Nat) (r : Nat → Raw) (k : Int) (raw : ByteArray) (w : World) (hn : n ≤ 1024) (hr : Elems w ao n r) (hk0 : 0 ≤ k) (hk1 : k ≤ 255)
    (hl : lastI (fun i => (r i).mem raw) (keyZ k raw) n = none) :
    Calls Yba.prog 3 #[.slice ao n cap, .int .u8 k, .string raw] w fun e w' => e = .returned (.bool true) ∧ Below w.heap.size w w' := by
  go_enter Yba.func3, Yba.ntmps3
  go_wp2_with fail
  refine (build_any ao n cap r raw w hn hr).mono ?_
  rintro e w1 ⟨rfl, hm0, hB1, hF1⟩
  unfold objVal
  obtain ⟨F, hF⟩ : ∃ F, w.heap.size + 1 = F := ⟨_, rfl⟩
  rw [hF] at hm0 hF1 ⊢
  obtain ⟨M, hM⟩ : ∃ M : Nat → Mem, (fun i => (r i).mem raw) = M := ⟨_, rfl⟩
  rw [hM] at hl
  have hm1 : ∀ i, i < n → MemAt w1 F i (M i) := fun i hi => by rw [← hM]; exact hm0 i hi
  have hFw : w.heap.size < F := by omega
  clear hF hr hM hm0
  go_wp2_with (go_at_call 7; refine (key_any _ _ _ hk0 hk1).mono ?_; rintro e w' ⟨rfl, rfl⟩)
  have hv : ((w1.alloc (.cells (objVal F n) 27))).cell? ⟨w1.heap.size, 5, none⟩ = some (.slice (some ⟨F, 0, none⟩) n n) := laid5 _ _ _ _ _ rfl
  have hB2 : Below w.heap.size w (w1.alloc (.cells (objVal F n) 27)) := hB1.alloc (by omega) _
  have hm2 : ∀ i, i < n → MemAt (w1.alloc (.cells (objVal F n) 27)) F i (M i) := fun i hi => (hm1 i hi).later ((Below.refl w1.heap.size w1).alloc (Nat.le_refl _) _) hF1
  refine (member_none w1.heap.size F n _ _ _ hn hl (by simp; omega) (by simp) hv hm2).mono ?_
  rintro e w2 ⟨rfl, hB3⟩
  unfold zeroVal
  have hs3 : w1.heap.size + 1 ≤ w2.heap.size := by have := hB3.size; simpa using this
  have hB3' : Below (w1.heap.size + 1) (w1.alloc (.cells (objVal F n) 27)) w2 := by simpa using hB3
  have hv2 : w2.cell? ⟨w1.heap.size, 5, none⟩ = some (.slice (some ⟨F, 0, none⟩) n n) := (hB3'.cell (p := ⟨w1.heap.size, 5, none⟩) (by show w1.heap.size < _; omega)).trans hv
  have hm3 : ∀ i, i < n → MemAt w2 F i (M i) := fun i hi => (hm2 i hi).later hB3' (by omega)
  have hB03 : Below w.heap.size w w2 := hB2.trans (hB3'.mono (by have := hB1.size; omega))
  have hv3 : ∀ o : Obj, (w2.alloc o).cell? ⟨w1.heap.size, 5, none⟩ = some (.slice (some ⟨F, 0, none⟩) n n) := fun o => by rw [World.cell?_alloc_past _ _ _ (by omega)]; exact hv2
  have hm4 : ∀ (o : Obj) (i : Nat), i < n → MemAt (w2.alloc o) F i (M i) := fun o i hi => (hm3 i hi).later ((Below.refl w2.heap.size w2).alloc (Nat.le_refl _) _) (by omega)
  have hlast : ∀ o : Obj, Calls Yba.prog 9 #[.pointer (some ⟨w1.heap.size, 0, none⟩), .string (keyZ k raw)] (w2.alloc o) fun e w' => e = .returned (.int .i64 (-1)) ∧ w' = w2.alloc o := fun o => by
    have := last_any w1.heap.size F n M (keyZ k raw) (w2.alloc o) hn (hv3 o) (fun i hi => (hm4 o i hi).c0)
    rw [hl] at this; exact this
  have hVl2 : w1.heap.size < w2.heap.size := by omega
  have heq : ∀ W : World, Calls Yba.prog 10 #[.agg #[.int .u8 0, .int .i64 0, .string ⟨#[]⟩, .bool false, .slice none 0 0, .slice none 0 0], .agg #[.int .u8 0, .int .i64 0, .string ⟨#[]⟩, .bool false, .slice none 0 0, .slice none 0 0]] W fun e w' => e = .returned (.bool true) ∧ Below W.heap.size W w' := fun W => eq_self 0 0 ⟨#[]⟩ false W
  clear hm1 hm2 hm3 hm4 hv3 hv hl hB1 hB2 hB3 hB3'
  go_wp2_with (first | (go_at_call 9; refine (hlast _).mono ?_; rintro e w' ⟨rfl, rfl⟩) | (go_at_call 10; refine (heq _).mono ?_; rintro e w' ⟨rfl, hB'⟩))
  have hfin : Below w.heap.size w w' := (hB03.alloc hB03.size _).trans (hB'.mono (by have := hB03.size; simp; omega))
  go_ret
  exact ⟨rfl, hfin⟩

end Go.Proofs.Ybulkbsny
