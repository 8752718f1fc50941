/-
  The law 'FlagLiteral': its walk.
-/
import Derived.Test.YbulkbsnyAMake
import Derived.Test.YbulkbsnyAFlag
import Derived.Test.YbulkbsnyAMember
namespace Go.Proofs.Ybulkbsny
open Go.RowKit

set_option maxHeartbeats 3200000 in
set_option maxRecDepth 100000 in
theorem flag_law_none (ao : Option Addr) (n cap : Nat) (r : Nat → Raw) (k kq : Int) (raw : ByteArray) (w : World) (hn : n ≤ 1024) (hr : Elems w ao n r) (hk0 : 0 ≤ k) (hk1 : k ≤ 255) (hd0 : 0 ≤ kq) (hd1 : kq ≤ 255)
    (hl : lastI (fun i => (r i).mem raw) (keyZ k raw) n = none) :
    Calls Yba.prog 4 #[.slice ao n cap, .int .u8 k, .int .u8 kq, .string raw] w fun e w' => e = .returned (.bool true) ∧ Below w.heap.size w w' := by
  go_enter Yba.func4, Yba.ntmps4
  go_wp2_with fail
  refine (build_any ao n cap r raw w hn hr).mono ?_
  rintro e w1 ⟨rfl, hm0, hB1, hF1⟩
  unfold objVal
  obtain ⟨F, hF⟩ : ∃ F, w.heap.size + 1 = F := ⟨_, rfl⟩
  rw [hF] at hm0 hF1 ⊢
  obtain ⟨M, hM⟩ : ∃ M : Nat → Mem, (fun i => (r i).mem raw) = M := ⟨_, rfl⟩
  rw [hM] at hl
  have hm1 : ∀ i, i < n → MemAt w1 F i (M i) := fun i hi => by rw [← hM]; exact hm0 i hi
  have hFw : w.heap.size < F := by omega
  clear hF hr hM hm0
  have hv : (w1.alloc (.cells (objVal F n) 27)).cell? ⟨w1.heap.size, 5, none⟩ = some (.slice (some ⟨F, 0, none⟩) n n) := laid5 _ _ _ _ _ rfl
  have hB2 : Below w.heap.size w (w1.alloc (.cells (objVal F n) 27)) := hB1.alloc (by omega) _
  have hm2 : ∀ i, i < n → MemAt (w1.alloc (.cells (objVal F n) 27)) F i (M i) := fun i hi => (hm1 i hi).later ((Below.refl w1.heap.size w1).alloc (Nat.le_refl _) _) hF1
  have hx : FoundAs M (lastI M (keyZ k raw) n) ⟨⟨#[]⟩, 0, 0, 0, ⟨#[]⟩, false⟩ := by rw [hl]; exact ⟨rfl, rfl, rfl, rfl, rfl⟩
  have hflag := flag_any w1.heap.size F n M (keyZ k raw) ⟨⟨#[]⟩, 0, 0, 0, ⟨#[]⟩, false⟩ (w1.alloc (.cells (objVal F n) 27)) hn hx (by simp; omega) (by simp) hv hm2
  have hlit : ∀ w2, Below (w1.heap.size + 1) (w1.alloc (.cells (objVal F n) 27)) w2 → Calls Yba.prog 12 #[.pointer (some ⟨w1.heap.size, 0, none⟩), .string (keyZ k raw), .int .u8 (kq % 6)] w2 fun e w' => e = .returned (.tuple #[.string (litS ⟨⟨#[]⟩, 0, 0, 0, ⟨#[]⟩, false⟩ (kq % 6)), .int .i64 0]) ∧ Below w2.heap.size w2 w' := fun w2 hB => by
    have hsz : w1.heap.size + 1 ≤ w2.heap.size := by have := hB.size; simpa using this
    exact literal_any w1.heap.size F n M (keyZ k raw) ⟨⟨#[]⟩, 0, 0, 0, ⟨#[]⟩, false⟩ (kq % 6) w2 hn hx (by omega) (by omega) ((hB.cell (p := ⟨w1.heap.size, 5, none⟩) (by show w1.heap.size < _; omega)).trans hv) (fun i hi => (hm2 i hi).later hB (by omega))
  have hlast : ∀ w2, Below (w1.heap.size + 1) (w1.alloc (.cells (objVal F n) 27)) w2 → Calls Yba.prog 9 #[.pointer (some ⟨w1.heap.size, 0, none⟩), .string (keyZ k raw)] w2 fun e w' => e = .returned (.int .i64 (-1)) ∧ w' = w2 := fun w2 hB => by
    have := last_any w1.heap.size F n M (keyZ k raw) w2 hn ((hB.cell (p := ⟨w1.heap.size, 5, none⟩) (by show w1.heap.size < _; omega)).trans hv) (fun i hi => ((hm2 i hi).later hB (by omega)).c0)
    rw [hl] at this; exact this
  have hB0 := hB1.size
  unfold objVal at hflag hlit hlast hB2 hv hm2
  rw [show flagB ⟨⟨#[]⟩, 0, 0, 0, ⟨#[]⟩, false⟩ = false from rfl] at hflag
  have hl0 : litS ⟨⟨#[]⟩, 0, 0, 0, ⟨#[]⟩, false⟩ (kq % 6) = ⟨#[]⟩ := by unfold litS; split <;> rfl
  rw [hl0] at hlit
  clear hm1 hm2 hv hl hx hB1 hl0
  go_wp2_with (go_at_call 7; refine (key_any _ _ _ hk0 hk1).mono ?_; rintro e w' ⟨rfl, rfl⟩)
  refine hflag.mono ?_
  rintro e w3 ⟨rfl, hB3⟩
  have hB3' := hB3.mono (B' := w1.heap.size + 1) (by simp)
  have hs3 : w1.heap.size + 1 ≤ w3.heap.size := by have := hB3.size; simpa using this
  go_wp2_with fail
  refine (hlit w3 hB3').mono ?_
  rintro e w4 ⟨rfl, hB4⟩
  have hs4 := hB4.size
  have hB4' := hB3'.trans (hB4.mono hs3)
  have hfin : Below w.heap.size w w4 := hB2.trans (hB4'.mono (by omega))
  go_wp2_with (go_at_call 9; refine (hlast w4 hB4').mono ?_; rintro e w' ⟨rfl, rfl⟩)
  go_ret
  exact ⟨rfl, hfin⟩


set_option maxHeartbeats 3200000 in
set_option maxRecDepth 100000 in
theorem flag_law_some (ao : Option Addr) (n cap q : Nat) (r : Nat → Raw) (k kq : Int) (raw : ByteArray) (w : World) (hn : n ≤ 1024) (hr : Elems w ao n r) (hk0 : 0 ≤ k) (hk1 : k ≤ 255) (hd0 : 0 ≤ kq) (hd1 : kq ≤ 255)
    (hl : lastI (fun i => (r i).mem raw) (keyZ k raw) n = some q) :
    Calls Yba.prog 4 #[.slice ao n cap, .int .u8 k, .int .u8 kq, .string raw] w fun e w' => e = .returned (.bool true) ∧ Below w.heap.size w w' := by
  have hqn := lastI_lt _ _ _ _ hl
  have hq1 : (0 : Int) ≤ (q : Int) := by omega
  have hq2 : (q : Int) < (n : Int) := by omega
  go_enter Yba.func4, Yba.ntmps4
  go_wp2_with fail
  refine (build_any ao n cap r raw w hn hr).mono ?_
  rintro e w1 ⟨rfl, hm0, hB1, hF1⟩
  unfold objVal
  obtain ⟨F, hF⟩ : ∃ F, w.heap.size + 1 = F := ⟨_, rfl⟩
  rw [hF] at hm0 hF1 ⊢
  obtain ⟨M, hM⟩ : ∃ M : Nat → Mem, (fun i => (r i).mem raw) = M := ⟨_, rfl⟩
  rw [hM] at hl
  have hm1 : ∀ i, i < n → MemAt w1 F i (M i) := fun i hi => by rw [← hM]; exact hm0 i hi
  have hFw : w.heap.size < F := by omega
  clear hF hr hM hm0
  have hv : (w1.alloc (.cells (objVal F n) 27)).cell? ⟨w1.heap.size, 5, none⟩ = some (.slice (some ⟨F, 0, none⟩) n n) := laid5 _ _ _ _ _ rfl
  have hB2 : Below w.heap.size w (w1.alloc (.cells (objVal F n) 27)) := hB1.alloc (by omega) _
  have hm2 : ∀ i, i < n → MemAt (w1.alloc (.cells (objVal F n) 27)) F i (M i) := fun i hi => (hm1 i hi).later ((Below.refl w1.heap.size w1).alloc (Nat.le_refl _) _) hF1
  have hx : FoundAs M (lastI M (keyZ k raw) n) (M q) := by rw [hl]; rfl
  have hflag := flag_any w1.heap.size F n M (keyZ k raw) (M q) (w1.alloc (.cells (objVal F n) 27)) hn hx (by simp; omega) (by simp) hv hm2
  have hlit : ∀ w2, Below (w1.heap.size + 1) (w1.alloc (.cells (objVal F n) 27)) w2 → Calls Yba.prog 12 #[.pointer (some ⟨w1.heap.size, 0, none⟩), .string (keyZ k raw), .int .u8 (kq % 6)] w2 fun e w' => e = .returned (.tuple #[.string (litS (M q) (kq % 6)), .int .i64 (M q).off]) ∧ Below w2.heap.size w2 w' := fun w2 hB => by
    have hsz : w1.heap.size + 1 ≤ w2.heap.size := by have := hB.size; simpa using this
    exact literal_any w1.heap.size F n M (keyZ k raw) (M q) (kq % 6) w2 hn hx (by omega) (by omega) ((hB.cell (p := ⟨w1.heap.size, 5, none⟩) (by show w1.heap.size < _; omega)).trans hv) (fun i hi => (hm2 i hi).later hB (by omega))
  have hlast : ∀ w2, Below (w1.heap.size + 1) (w1.alloc (.cells (objVal F n) 27)) w2 → Calls Yba.prog 9 #[.pointer (some ⟨w1.heap.size, 0, none⟩), .string (keyZ k raw)] w2 fun e w' => e = .returned (.int .i64 (q : Int)) ∧ w' = w2 := fun w2 hB => by
    have := last_any w1.heap.size F n M (keyZ k raw) w2 hn ((hB.cell (p := ⟨w1.heap.size, 5, none⟩) (by show w1.heap.size < _; omega)).trans hv) (fun i hi => ((hm2 i hi).later hB (by omega)).c0)
    rw [hl] at this; exact this
  have hB0 := hB1.size
  unfold objVal at hflag hlit hlast hB2 hv hm2
  obtain ⟨c0, c1, c2, c3, c4, c5, c6, c7⟩ := hm2 q hqn
  obtain ⟨x0, hx0⟩ : ∃ x0, M q = x0 := ⟨_, rfl⟩
  rw [hx0] at c0 c1 c2 c3 c4 c5 hflag hlit
  have HX : Hid (M q = x0) := hx0
  have hflagv := flagB x0
  clear hm1 hm2 hl hx hB1 hx0 hflagv
  go_wp2_with (go_at_call 7; refine (key_any _ _ _ hk0 hk1).mono ?_; rintro e w' ⟨rfl, rfl⟩)
  refine hflag.mono ?_
  rintro e w3 ⟨rfl, hB3⟩
  have hB3' := hB3.mono (B' := w1.heap.size + 1) (by simp)
  have hs3 : w1.heap.size + 1 ≤ w3.heap.size := by have := hB3.size; simpa using this
  go_wp2_with fail
  refine (hlit w3 hB3').mono ?_
  rintro e w4 ⟨rfl, hB4⟩
  have hs4 := hB4.size
  have hB4' := hB3'.trans (hB4.mono hs3)
  have hfin : Below w.heap.size w w4 := hB2.trans (hB4'.mono (by omega))
  have hfin2 : ∀ o : Obj, Below w.heap.size w (w4.alloc o) := fun o => hfin.alloc hfin.size o
  have e0 : w4.cell? ⟨F, q * 8, none⟩ = some (.string x0.key) := (hB4'.cell (p := ⟨F, q * 8, none⟩) (by show F < _; omega)).trans c0
  have e1 : w4.cell? ⟨F, q * 8 + 1, none⟩ = some (.int .i64 x0.off) := (hB4'.cell (p := ⟨F, q * 8 + 1, none⟩) (by show F < _; omega)).trans c1
  have e2 : w4.cell? ⟨F, q * 8 + 2, none⟩ = some (.int .u8 x0.kind) := (hB4'.cell (p := ⟨F, q * 8 + 2, none⟩) (by show F < _; omega)).trans c2
  have e3 : w4.cell? ⟨F, q * 8 + 3, none⟩ = some (.int .i64 x0.voff) := (hB4'.cell (p := ⟨F, q * 8 + 3, none⟩) (by show F < _; omega)).trans c3
  have e4 : w4.cell? ⟨F, q * 8 + 4, none⟩ = some (.string x0.text) := (hB4'.cell (p := ⟨F, q * 8 + 4, none⟩) (by show F < _; omega)).trans c4
  have e5 : w4.cell? ⟨F, q * 8 + 5, none⟩ = some (.bool x0.flag) := (hB4'.cell (p := ⟨F, q * 8 + 5, none⟩) (by show F < _; omega)).trans c5
  have e6 : w4.cell? ⟨F, q * 8 + 6, none⟩ = some (.slice none 0 0) := (hB4'.cell (p := ⟨F, q * 8 + 6, none⟩) (by show F < _; omega)).trans c6
  have e7 : w4.cell? ⟨F, q * 8 + 7, none⟩ = some (.slice none 0 0) := (hB4'.cell (p := ⟨F, q * 8 + 7, none⟩) (by show F < _; omega)).trans c7
  have ev : w4.cell? ⟨w1.heap.size, 5, none⟩ = some (.slice (some ⟨F, 0, none⟩) n n) := (hB4'.cell (p := ⟨w1.heap.size, 5, none⟩) (by show w1.heap.size < _; omega)).trans hv
  have hFl : F < w4.heap.size := by omega
  have hVl : w1.heap.size < w4.heap.size := by omega
  clear c0 c1 c2 c3 c4 c5 c6 c7 hv hB2 hB3 hB4 hfin
  by_cases h1 : x0.kind = 1
  · have hf : flagB x0 = x0.flag := by simp [flagB, h1]
    rw [hf]
    clear hf hflag
    by_cases h3 : kq % 6 = 1
    · have hs : litS x0 (kq % 6) = x0.text := by simp [litS, h1, h3]
      rw [hs]
      clear hs hlit
      go_wp2_with (go_at_call 9; refine (hlast w4 hB4').mono ?_; rintro e w' ⟨rfl, rfl⟩)
      go_ret
      exact ⟨rfl, hfin2 _⟩
    · have hs : litS x0 (kq % 6) = ⟨#[]⟩ := by rw [litS, h1, if_neg (fun e => h3 e.symm)]
      rw [hs]
      clear hs hlit
      have h4 : ((1 : Int) == kq % 6) = false := by simpa using fun e => h3 e.symm
      go_wp2_with (go_at_call 9; refine (hlast w4 hB4').mono ?_; rintro e w' ⟨rfl, rfl⟩)
      go_ret
      exact ⟨rfl, hfin2 _⟩
  · have hf : flagB x0 = false := by simp [flagB, h1]
    rw [hf]
    clear hf hflag
    by_cases h2 : x0.kind = kq % 6
    · have hs : litS x0 (kq % 6) = x0.text := by simp [litS, h2]
      rw [hs]
      clear hs hlit
      have h5 : ¬ kq % 6 = 1 := by rw [← h2]; exact h1
      go_wp2_with (go_at_call 9; refine (hlast w4 hB4').mono ?_; rintro e w' ⟨rfl, rfl⟩)
      go_ret
      exact ⟨rfl, hfin2 _⟩
    · have hs : litS x0 (kq % 6) = ⟨#[]⟩ := by simp [litS, h2]
      rw [hs]
      clear hs hlit
      go_wp2_with (go_at_call 9; refine (hlast w4 hB4').mono ?_; rintro e w' ⟨rfl, rfl⟩)
      go_ret
      exact ⟨rfl, hfin2 _⟩

end Go.Proofs.Ybulkbsny
