/-
  'flag' and 'literal' by their contracts; the walk of the law 'FlagLiteral'.
-/
import Derived.Test.YbulkbsnyAMem
namespace Go.Proofs.Ybulkbsny
open Go.RowKit

/-- What a look-up among members gives: the value's cells and the key's offset. -/
def FoundAs (m : Nat → Mem) : Option Nat → Mem → Prop
  | none, x => x.off = 0 ∧ x.kind = 0 ∧ x.voff = 0 ∧ x.text = ⟨#[]⟩ ∧ x.flag = false
  | some q, x => x = m q

theorem found_val {m : Nat → Mem} {x : Mem} (h : FoundAs m none x) : x.val = zeroVal := by
  obtain ⟨_, h1, h2, h3, h4⟩ := h
  simp [Mem.val, zeroVal, h1, h2, h3, h4]

/-- 'member', one contract for both ends. -/
theorem member_any (V F n : Nat) (m : Nat → Mem) (t : ByteArray) (x : Mem) (w : World) (hn : n ≤ 1024) (hx : FoundAs m (lastI m t n) x) (hF : F < w.heap.size) (hVl : V < w.heap.size)
    (hv : w.cell? ⟨V, 5, none⟩ = some (.slice (some ⟨F, 0, none⟩) n n)) (hm : ∀ i, i < n → MemAt w F i (m i)) :
    Calls Yba.prog 8 #[.pointer (some ⟨V, 0, none⟩), .string t] w fun e w' => e = .returned (.tuple #[.agg x.val, .int .i64 x.off]) ∧ Below w.heap.size w w' := by
  cases hl : lastI m t n with
  | none =>
    rw [hl] at hx
    rw [found_val hx, hx.1]
    exact member_none V F n m t w hn hl hF hVl hv hm
  | some q =>
    rw [hl] at hx
    obtain rfl : x = m q := hx
    exact member_some V F n q m t w hn hl hF hVl hv hm

/-- What 'flag' answers. -/
def flagB (x : Mem) : Bool := decide (x.kind = 1) && x.flag

set_option maxHeartbeats 800000 in
set_option maxRecDepth 100000 in
theorem flag_any (V F n : Nat) (m : Nat → Mem) (t : ByteArray) (x : Mem) (w : World) (hn : n ≤ 1024) (hx : FoundAs m (lastI m t n) x) (hF : F < w.heap.size) (hVl : V < w.heap.size)
    (hv : w.cell? ⟨V, 5, none⟩ = some (.slice (some ⟨F, 0, none⟩) n n)) (hm : ∀ i, i < n → MemAt w F i (m i)) :
    Calls Yba.prog 11 #[.pointer (some ⟨V, 0, none⟩), .string t] w fun e w' => e = .returned (.bool (flagB x)) ∧ Below w.heap.size w w' := by
  have hmem := member_any V F n m t x w hn hx hF hVl hv hm
  unfold Mem.val at hmem
  clear hx hm hv
  by_cases hk : x.kind = 1
  · have HB : Hid (flagB x = x.flag) := by simp [Hid, flagB, hk]
    go_enter Yba.func11, Yba.ntmps11
    go_wp2_with (go_at_call 8; refine hmem.mono ?_; rintro e w' ⟨rfl, hB⟩)
    go_ret
    exact ⟨by rw [HB.out]; rfl, hB.alloc hB.size _⟩
  · have HB : Hid (flagB x = false) := by simp [Hid, flagB, hk]
    go_enter Yba.func11, Yba.ntmps11
    go_wp2_with (go_at_call 8; refine hmem.mono ?_; rintro e w' ⟨rfl, hB⟩)
    go_ret
    exact ⟨by rw [HB.out]; rfl, hB.alloc hB.size _⟩

/-- What 'literal' answers. -/
def litS (x : Mem) (d : Int) : ByteArray := if x.kind = d then x.text else ⟨#[]⟩

set_option maxHeartbeats 800000 in
set_option maxRecDepth 100000 in
theorem literal_any (V F n : Nat) (m : Nat → Mem) (t : ByteArray) (x : Mem) (d : Int) (w : World) (hn : n ≤ 1024) (hx : FoundAs m (lastI m t n) x) (hF : F < w.heap.size) (hVl : V < w.heap.size)
    (hv : w.cell? ⟨V, 5, none⟩ = some (.slice (some ⟨F, 0, none⟩) n n)) (hm : ∀ i, i < n → MemAt w F i (m i)) :
    Calls Yba.prog 12 #[.pointer (some ⟨V, 0, none⟩), .string t, .int .u8 d] w fun e w' => e = .returned (.tuple #[.string (litS x d), .int .i64 x.off]) ∧ Below w.heap.size w w' := by
  have hmem := member_any V F n m t x w hn hx hF hVl hv hm
  unfold Mem.val at hmem
  clear hx hm hv
  by_cases hk : x.kind = d
  · have HB : Hid (litS x d = x.text) := by simp [Hid, litS, hk]
    go_enter Yba.func12, Yba.ntmps12
    go_wp2_with (go_at_call 8; refine hmem.mono ?_; rintro e w' ⟨rfl, hB⟩)
    go_ret2
    exact ⟨by rw [HB.out]; rfl, hB.alloc hB.size _⟩
  · have HB : Hid (litS x d = ⟨#[]⟩) := by simp [Hid, litS, hk]
    go_enter Yba.func12, Yba.ntmps12
    go_wp2_with (go_at_call 8; refine hmem.mono ?_; rintro e w' ⟨rfl, hB⟩)
    go_ret2
    exact ⟨by rw [HB.out]; rfl, hB.alloc hB.size _⟩

end Go.Proofs.Ybulkbsny
