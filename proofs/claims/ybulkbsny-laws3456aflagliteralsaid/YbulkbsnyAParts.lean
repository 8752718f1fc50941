/-
  The callees of the two laws over an object's members, each by its contract.
-/
import Derived.Test.YbulkbsnyRows
import Derived.WalkKit
import Derived.WalkSmall
import Derived.WalkSpells
import Derived.Deep.QuietTactic
import Derived.BigQuiet
namespace Go.Proofs.Ybulkbsny
open Go.RowKit

/-- A member as plain data. -/
structure Mem where
  key : ByteArray
  off : Int
  kind : Int
  voff : Int
  text : ByteArray
  flag : Bool

/-- The key that a number stands for. -/
def keyZ (k : Int) (raw : ByteArray) : ByteArray :=
  if k % 5 = 0 then ⟨#[97]⟩ else if k % 5 = 1 then ⟨#[98]⟩ else if k % 5 = 2 then ⟨#[97, 98]⟩ else if k % 5 = 3 then ⟨#[]⟩ else raw

set_option maxHeartbeats 400000 in
theorem key_any (k : Int) (raw : ByteArray) (w : World) (h0 : 0 ≤ k) (h1 : k ≤ 255) :
    Calls Yba.prog 7 #[.int .u8 k, .string raw] w fun e w' => e = .returned (.string (keyZ k raw)) ∧ w' = w := by
  unfold keyZ
  rcases (show k % 5 = 0 ∨ k % 5 = 1 ∨ k % 5 = 2 ∨ k % 5 = 3 ∨ k % 5 = 4 from by omega) with e | e | e | e | e
  all_goals
    simp only [e]
    go_enter Yba.func7, Yba.ntmps7
    go_wp2
    go_ret
    exact ⟨rfl, rfl⟩

/-- Member i of the row in block F. -/
structure MemAt (w : World) (F i : Nat) (m : Mem) : Prop where
  c0 : w.cell? ⟨F, i * 8, none⟩ = some (.string m.key)
  c1 : w.cell? ⟨F, i * 8 + 1, none⟩ = some (.int .i64 m.off)
  c2 : w.cell? ⟨F, i * 8 + 2, none⟩ = some (.int .u8 m.kind)
  c3 : w.cell? ⟨F, i * 8 + 2 + 1, none⟩ = some (.int .i64 m.voff)
  c4 : w.cell? ⟨F, i * 8 + 2 + 2, none⟩ = some (.string m.text)
  c5 : w.cell? ⟨F, i * 8 + 2 + 3, none⟩ = some (.bool m.flag)
  c6 : w.cell? ⟨F, i * 8 + 2 + 4, none⟩ = some (.slice none 0 0)
  c7 : w.cell? ⟨F, i * 8 + 2 + 5, none⟩ = some (.slice none 0 0)

/-- The last of the first n members whose key is t. -/
def lastI (m : Nat → Mem) (t : ByteArray) : Nat → Option Nat
  | 0 => none
  | k + 1 => if (m k).key.data.toList = t.data.toList then some k else lastI m t k

theorem lastI_none (m : Nat → Mem) (t : ByteArray) : ∀ n, (∀ j, j < n → (m j).key.data.toList ≠ t.data.toList) → lastI m t n = none
  | 0, _ => rfl
  | n + 1, h => by
    unfold lastI
    rw [if_neg (h n (by omega))]
    exact lastI_none m t n (fun j hj => h j (by omega))
theorem lastI_hit (m : Nat → Mem) (t : ByteArray) (q : Nat) (hq : (m q).key.data.toList = t.data.toList) :
    ∀ n, q < n → (∀ j, q + 1 ≤ j → j < n → (m j).key.data.toList ≠ t.data.toList) → lastI m t n = some q
  | 0, h, _ => by omega
  | n + 1, h, hj => by
    unfold lastI
    by_cases e : q = n
    · subst e; rw [if_pos hq]
    · rw [if_neg (hj n (by omega) (by omega))]
      exact lastI_hit m t q hq n (by omega) (fun j a b => hj j a (by omega))
theorem lastI_lt (m : Nat → Mem) (t : ByteArray) (q : Nat) : ∀ n, lastI m t n = some q → q < n
  | 0, h => by cases h
  | n + 1, h => by
    unfold lastI at h
    split at h
    · cases h; omega
    · have := lastI_lt m t q n h; omega

theorem same_key (a b : ByteArray) (h : a.data.toList = b.data.toList) : (a.toList == b.toList) = true := by rw [ByteArray.toList_eq, ByteArray.toList_eq, h]; simp
theorem other_key (a b : ByteArray) (h : a.data.toList ≠ b.data.toList) : (a.toList == b.toList) = false := by rw [ByteArray.toList_eq, ByteArray.toList_eq]; simpa using h

/-- The pointer that Lookup gives. -/
def ptrOf (F : Nat) : Option Nat → Value
  | none => .pointer none
  | some i => .pointer (some ⟨F, i * 8, none⟩)

set_option maxHeartbeats 800000 in
set_option maxRecDepth 100000 in
theorem lookup_any (V F n : Nat) (m : Nat → Mem) (t : ByteArray) (w : World) (hn : n ≤ 1024)
    (hv : w.cell? ⟨V, 5, none⟩ = some (.slice (some ⟨F, 0, none⟩) n n)) (hk : ∀ i, i < n → w.cell? ⟨F, i * 8, none⟩ = some (.string (m i).key)) :
    Calls Yba.prog 14 #[.pointer (some ⟨V, 0, none⟩), .string t] w fun e w' => e = .returned (ptrOf F (lastI m t n)) ∧ w' = w := by
  go_enter Yba.func14, Yba.ntmps14
  go_wp2
  go_loop [5] (fun i => ∃ c : Nat, c ≤ n ∧ i = .int .i64 ((c : Int) - 1) ∧ ∀ j, c ≤ j → j < n → (m j).key.data.toList ≠ t.data.toList) (fun i => (intOf i + 1).toNat)
  case atStart => exact ⟨n, Nat.le_refl _, rfl, fun j h1 h2 => by omega⟩
  case round =>
    obtain ⟨c, hc, rfl, hno⟩ := hrel
    by_cases hc0 : c = 0
    · subst hc0
      have HL : Hid (lastI m t n = none) := lastI_none m t n (fun j hj => hno j (by omega) hj)
      clear hno
      go_wp2
      go_ret
      exact ⟨by rw [HL.out]; rfl, rfl⟩
    · obtain ⟨q, rfl⟩ : ∃ q, c = q + 1 := ⟨c - 1, by omega⟩
      have cq := hk q (by omega)
      have hq : ((q + 1 : Nat) : Int) - 1 = (q : Int) := by omega
      have hqn : (q : Int) < (n : Int) := by omega
      rw [hq]
      by_cases he : (m q).key.data.toList = t.data.toList
      · have he' := same_key _ _ he
        have HL : Hid (lastI m t n = some q) := lastI_hit m t q he n (by omega) hno
        clear hk hno he
        go_wp2
        go_ret
        exact ⟨by rw [HL.out]; rfl, rfl⟩
      · have he' := other_key _ _ he
        have hno' : ∀ j, q ≤ j → j < n → (m j).key.data.toList ≠ t.data.toList := fun j h1 h2 => by
          by_cases e : j = q
          · subst e; exact he
          · exact hno j (by omega) h2
        clear hno he hk
        go_wp2
        go_round
        case rel => exact ⟨q, by omega, rfl, hno'⟩
        case measure => simp [intOf]

/-- The place that the law's own search gives. -/
def placeOf : Option Nat → Int
  | none => -1
  | some i => i

set_option maxHeartbeats 800000 in
set_option maxRecDepth 100000 in
theorem last_any (V F n : Nat) (m : Nat → Mem) (t : ByteArray) (w : World) (hn : n ≤ 1024)
    (hv : w.cell? ⟨V, 5, none⟩ = some (.slice (some ⟨F, 0, none⟩) n n)) (hk : ∀ i, i < n → w.cell? ⟨F, i * 8, none⟩ = some (.string (m i).key)) :
    Calls Yba.prog 9 #[.pointer (some ⟨V, 0, none⟩), .string t] w fun e w' => e = .returned (.int .i64 (placeOf (lastI m t n))) ∧ w' = w := by
  go_enter Yba.func9, Yba.ntmps9
  go_wp2
  go_loop [5, 6] (fun f i => ∃ k : Nat, k ≤ n ∧ i = .int .i64 k ∧ f = .int .i64 (placeOf (lastI m t k))) (fun _ i => n - (intOf i).toNat)
  case atStart => exact ⟨0, Nat.zero_le _, rfl, rfl⟩
  case round =>
    obtain ⟨k, hkn, rfl, rfl⟩ := hrel
    by_cases hlt : k < n
    · have ck := hk k hlt
      have hlt' : (k : Int) < (n : Int) := by omega
      by_cases he : (m k).key.data.toList = t.data.toList
      · have he' := same_key _ _ he
        have hl : lastI m t (k + 1) = some k := by simp [lastI, he]
        have HL : Hid (lastI m t (k + 1) = some k) := hl
        clear hk he hl
        go_wp2
        go_round
        case rel => exact ⟨k + 1, by omega, by go_num, by rw [HL.out]; rfl⟩
        case measure => simp [intOf]; omega
      · have he' := other_key _ _ he
        have hl : lastI m t (k + 1) = lastI m t k := by simp [lastI, he]
        have HL : Hid (lastI m t (k + 1) = lastI m t k) := hl
        clear hk he hl
        go_wp2
        go_round
        case rel => exact ⟨k + 1, by omega, by go_num, by rw [HL.out]⟩
        case measure => simp [intOf]; omega
    · obtain rfl : k = n := by omega
      go_wp2
      go_ret
      exact ⟨rfl, rfl⟩

end Go.Proofs.Ybulkbsny
