/-
  The file-order iterator, run with the closure of 'Stops'.
-/
import Derived.Test.YbulkbsmwCParts
namespace Go.Proofs.Ybulkbsmw
open Go.RowKit

/-- How many numbers are logged. -/
def stopAt (n : Nat) (k : Int) : Nat := if 1 ≤ k ∧ k < (n : Int) then k.toNat else n

theorem stopAt_hit {n m : Nat} {k : Int} (hm : m < n) (hk : (m : Int) + 1 = k) : stopAt n k = m + 1 := by
  unfold stopAt; split <;> omega
theorem stopAt_end {n : Nat} {k : Int} (hk : k ≤ 0 ∨ (n : Int) < k) : stopAt n k = n := by
  unfold stopAt; split <;> omega

set_option maxHeartbeats 800000 in
set_option maxRecDepth 100000 in
theorem iterS_any (L K X n c : Nat) (ev : Option Addr) (k : Int) (w : World) (v0 : Value) (hn : n ≤ 1024) (hK : K < L)
    (hk : w.cell? ⟨K, 0, none⟩ = some (.int .i64 k)) (hb : w.cell? ⟨L + 1, 0, none⟩ = some (.pointer (some ⟨X, 0, none⟩)))
    (hx : w.cell? ⟨X, 1, none⟩ = some (.slice ev n c)) (h : Inv L w w v0 0) :
    Calls Yba.prog 16 #[.func (.func 11) #[] #[.pointer (some ⟨L, 0, none⟩), .pointer (some ⟨K, 0, none⟩)], .pointer (some ⟨L + 1, 0, none⟩)] w fun e w' =>
      e = .returned (.tuple #[]) ∧ ∃ v', Inv L w w' v' (stopAt n k) := by
  go_enter Yba.func16, Yba.ntmps16
  go_wp2
  go_loopw [9] (fun i wr => ∃ m : Nat, m ≤ n ∧ i = .int .i64 m ∧ (∃ v, Inv L w wr v m) ∧ (k ≤ 0 ∨ (m : Int) < k)) (fun i _ => n - (intOf i).toNat)
  case atStart => exact ⟨0, Nat.zero_le _, rfl, ⟨v0, h⟩, by omega⟩
  case round =>
    obtain ⟨m, hm, rfl, ⟨v, hinv⟩, hkm⟩ := hrel
    by_cases hlt : m < n
    · by_cases hs : (m : Int) + 1 = k
      · have HS : Hid ((m : Int) + 1 = k) := hs
        have hne : ((m : Int) + 1 != k) = false := by simp [hs]
        clear hs
        go_wp2_with (go_at_call 11; refine (yieldS_any L K m k w _ v (by omega) hK hk hinv).mono ?_; rintro e w' ⟨v', rfl, hinv'⟩)
        refine bodyPost_ret (results_none rfl _ _ _) rfl ⟨rfl, v', ?_⟩
        rw [stopAt_hit hlt HS.out]
        exact hinv'
      · have hne : ((m : Int) + 1 != k) = true := by simp [hs]
        go_wp2_with (go_at_call 11; refine (yieldS_any L K m k w _ v (by omega) hK hk hinv).mono ?_; rintro e w' ⟨v', rfl, hinv'⟩)
        go_roundw
        case rel => exact ⟨m + 1, by omega, by go_num, ⟨v', hinv'⟩, by omega⟩
        case measure => simp [intOf]; omega
    · have hmn : n = m := by omega
      subst hmn
      go_wp2
      go_end0
      refine ⟨rfl, v, ?_⟩
      rw [stopAt_end (by omega)]
      exact hinv

end Go.Proofs.Ybulkbsmw
