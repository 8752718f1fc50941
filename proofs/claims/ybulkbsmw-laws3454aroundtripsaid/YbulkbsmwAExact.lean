/-
  The law 'Exact': its walk.
-/
import Derived.Test.YbulkbsmwAView
namespace Go.Proofs.Ybulkbsmw
open Go.RowKit

/-- Behind 'make' of n bytes: the block, and all that was there. -/
theorem made_full {w w1 : World} {n : Nat} {v : Value} {L : List Value} (hown : w1.ownsRow w.heap.size 5 1 v n L) (hv : v = .slice (some ⟨w.heap.size, 0, none⟩) n n) (hgrow : w.grownBy w1 none) :
    (∃ cur : List Value, w1.heap[w.heap.size]? = some (.cells cur.toArray 5 (0, 0)) ∧ cur.length = n) ∧ Below w.heap.size w w1 := by
  refine ⟨?_, (Below.refl _ _).grown hgrow (Nat.le_refl _) (fun _ h => by cases h)⟩
  subst hv
  rcases hown.2 with ⟨h, _⟩ | ⟨g, cap, cur, hv, _, hh, _, _, hs, _⟩
  · cases h
  · simp only [Value.slice.injEq, Option.some.injEq, Addr.mk.injEq] at hv
    obtain ⟨⟨rfl, _, _⟩, _, rfl⟩ := hv
    exact ⟨cur.toList, by simpa using hh, by simpa using hs⟩

theorem in_cells {w2 : World} {g : Nat} {cur : List Value} {Z : List Int} (h : w2.heap[g]? = some (.cells (splice cur 0 (cellsOf Z)).toArray 5 (0, 0))) (hl : cur.length = Z.length) :
    (∀ j u, (cellsOf Z)[j]? = some u → w2.cell? ⟨g, j, none⟩ = some u) ∧ Shows w2 (.slice (some ⟨g, 0, none⟩) Z.length Z.length) Z ∧ g < w2.heap.size := by
  rw [splice_all (by rw [cellsOf_length, hl])] at h
  have hc : ∀ j u, (cellsOf Z)[j]? = some u → w2.cell? ⟨g, j, none⟩ = some u := fun j u hu => by
    simp only [World.cell?, h]
    simpa using hu
  exact ⟨hc, ⟨_, _, rfl, (fun h => by cases h), fun _ => ⟨g, 0, rfl, fun j hj => by rw [Nat.zero_add]; exact hc j _ (cellsOf_at hj)⟩⟩, lt_of_block h⟩

set_option maxHeartbeats 1600000 in
set_option maxRecDepth 100000 in
theorem exact_in (a0 : Option Addr) (n cap0 : Nat) (Z : List Int) (s : ByteArray) (w : World) (hn : n ≤ 4096) (hs : s.size ≤ 4096) (hZ : Z.length = n) (hb : Shows w (.slice a0 n cap0) Z) :
    Calls Yba.prog 3 #[.slice a0 n cap0, .string s] w fun e w' => e = .returned (.bool true) ∧ Below w.heap.size w w' := by
  obtain ⟨i0, hi, hz0, hz1, hz2⟩ := info_parts Yba.info5
  have hsz5 : (Yba.prog.info? 5).map (·.size) = some 1 := by rw [hi]; simp [hz1]
  go_enter Yba.func3, Yba.ntmps3
  go_wp2_with (first | (at_make; refine wpList_make_full _ rfl _ _ 22 rfl w.heap.size 5 i0 (.int .u8 0) 1 Yba.underlying22 hi hz0 hz1 _ _ _ _ n rfl rfl rfl rfl (by rw [hz2]; omega) (by unfold maxLen; omega) (Nat.le_refl _) ?_))
  intro w1 hown1 hgrow1
  obtain ⟨⟨cur, hg1, hcur⟩, hB1⟩ := made_full hown1 rfl hgrow1
  clear hown1 hgrow1
  have hB1s := hB1.size
  have hb1 := hb.later hB1
  go_wp2_with ((with_reducible show wpList _ _ _ (Oper.mk (some 21) _ _ _ _ _ :: _) _ _); refine wpList_copy_splice rfl (.tmp 19) (.tmp 20) 22 22 rfl 5 Yba.underlying22 hsz5 (some ⟨w.heap.size, 0, none⟩) a0 n n n cap0 rfl rfl w.heap.size 0 cur 5 hg1 (cellsOf Z) (by rw [cellsOf_length, hZ]; exact (Nat.min_self n).symm) (fun hp => ⟨rfl, hb1.pos (by rwa [cellsOf_length] at hp)⟩) (by rw [cellsOf_length]; omega) (cellsOf_one Z) w.heap.size w hB1 (Nat.le_refl _) ?_)
  intro w2 HG2 hB2
  obtain ⟨hc2, hin2, hg2⟩ := in_cells HG2.out (by omega)
  rw [hZ] at hin2
  clear HG2 hg1 hb1 hB1 hB1s
  go_wp2_with fail
  refine (appendName_full w.heap.size n s (cellsOf Z) w2 hs hn (by rw [cellsOf_length, hZ]) hg2 hc2).mono ?_
  rintro e w3 ⟨v3, rfl, hown3, hB3⟩
  rw [encC_eq, strC_eq, ← cellsOf_append, ← cellsOf_append] at hown3
  have hgot := shows_of_own hown3
  clear hown3 hc2
  have hs3 := hB3.size
  go_wp2_with (first | (at_make; refine wpList_make_own _ rfl _ _ 22 rfl w3.heap.size 5 i0 (.int .u8 0) 1 Yba.underlying22 hi hz0 hz1 _ _ _ (n + s.size + 10) rfl rfl (by omega) (by rw [hz2]; omega) (by unfold maxLen; omega) (Nat.le_refl _) ?_))
  intro w4 hown4 hgrow4
  have hB4 : Below w3.heap.size w3 w4 := (Below.refl _ _).grown hgrow4 (Nat.le_refl _) (fun _ h => by cases h)
  have hs4 := hB4.size
  have hb4 : Shows w4 (.slice a0 n cap0) Z := hb.later (hB2.trans ((hB3.mono (by omega)).trans (hB4.mono (by omega))))
  have hnone : a0 = none → n = 0 ∧ cap0 = 0 := by
    obtain ⟨ao, c, hv, h0, h1⟩ := hb
    simp only [Value.slice.injEq] at hv
    obtain ⟨rfl, _, rfl⟩ := hv
    intro hh
    refine ⟨?_, h0 hh⟩
    by_cases hp : 0 < Z.length
    · obtain ⟨_, _, hx, _⟩ := h1 hp; rw [hh] at hx; cases hx
    · omega
  clear hgrow4
  go_wp2_with (at_builtin; refine wpList_append_fits_any _ rfl (.tmp 32) (.tmp 33) 22 rfl w3.heap.size 5 i0 1 Yba.underlying22 hi hz1 w3.heap.size 0 (n + s.size + 10) [] rfl hown4 a0 n cap0 (cellsOf Z) rfl (by rw [cellsOf_length]; omega) hnone hb4.src (cellsOf_one Z) (by omega) ?_)
  intro w5 hown5 hgrow5
  have hB5 : Below w3.heap.size w3 w5 := hB4.grown hgrow5 hs4 (fun _ h => by cases h; exact Nat.le_refl _)
  have hs5 := hB5.size
  clear hgrow5 hown4 hb4 hB4 hs4
  go_wp2_with fail
  refine (enc_any s.size w5 hs).mono ?_
  rintro e w6 ⟨v6, rfl, hown6, hB6⟩
  have hs6 := hB6.size
  have henc := encZ_length s.size
  rw [encC_eq, cellsOf_length] at hown6
  have hwant6 := ownsRow_below hown5 hB6
  have hB6' : Below w3.heap.size w3 w6 := hB5.trans (hB6.mono hs5)
  obtain ⟨m, hm⟩ : ∃ m, (encZ s.size).length = m + 1 := ⟨(encZ s.size).length - 1, by omega⟩
  obtain ⟨g6, c6, hv6⟩ : ∃ g6 c6, v6 = .slice (some ⟨g6, 0, none⟩) (m + 1) c6 := by
    rcases hown6.2 with ⟨_, h0⟩ | ⟨g, cap, cur, hv, _⟩
    · omega
    · exact ⟨g, cap, by rw [hv, hm]⟩
  rw [hv6] at hown6 ⊢
  have hsrc6 := hown6.cells (g := g6) rfl
  have HM : Hid ((encZ s.size).length = m + 1) := hm
  clear hown5 hB5 hs5 hB6 hown6 hv6 hm
  go_wp2_with (at_builtin; refine wpList_append_fits _ rfl (.tmp 35) (.tmp 39) 22 rfl w3.heap.size 5 i0 1 Yba.underlying22 hi hz1 w3.heap.size n (n + s.size + 10) (cellsOf Z) rfl hwant6 ⟨g6, 0, none⟩ (m + 1) c6 (cellsOf (encZ s.size)) rfl (by rw [cellsOf_length, HM.out]; omega) hsrc6 (cellsOf_one _) (by have := HM.out; omega) ?_)
  intro w7 hown7 hgrow7
  have hB7 : Below w3.heap.size w3 w7 := hB6'.grown hgrow7 hB6'.size (fun _ h => by cases h; exact Nat.le_refl _)
  have hs7 := hB7.size
  clear hgrow7 hwant6 hB6' hsrc6 hs6
  go_wp2_with (at_builtin; refine Lib.wpList_append_own_string _ rfl (.tmp 41) (.tmp 42) 22 9 rfl w3.heap.size 5 i0 Yba.underlying22 Yba.underlying9 hi hz0 hz1 hz2 _ _ _ rfl hown7 s rfl (by have := HM.out; unfold maxLen; omega) (by have := HM.out; omega) hs7 ?_)
  intro v8 w8 hown8 hgrow8 _
  have hB8 : Below w3.heap.size w3 w8 := hB7.grown hgrow8 hs7 (fun j hj => (hown7.lt j hj).1)
  have hwant : Shows w8 v8 (Z ++ (encZ s.size ++ strZ s)) := by
    refine shows_of_own (base := w3.heap.size) (n := n + (m + 1) + s.size) ?_
    rw [cellsOf_append, cellsOf_append, ← strC_eq, ← List.append_assoc]
    simpa [List.append_assoc] using hown8
  have hgot8 := hgot.later hB8
  have hlen : (Z ++ (encZ s.size ++ strZ s)).length ≤ 16384 := by
    rw [List.length_append, List.length_append, strZ_length]; omega
  clear hgrow8 hown8 hown7 hB7 hs7 hgot
  go_wp2_with fail
  refine (eq_shows v3 v8 _ w8 hlen hgot8 hwant).mono ?_
  rintro e w9 ⟨rfl, hB9⟩
  have hs8 := hB8.size
  have hB29 : Below w2.heap.size w2 w9 := hB3.trans ((hB8.mono hs3).trans (hB9.mono (by omega)))
  have hin9 := hin2.later hB29
  have hB09 : Below w.heap.size w w9 := hB2.trans (hB29.mono (by omega))
  have hb9 := hb.later hB09
  clear hwant hgot8 hlen hB9 hB8 hB29
  go_wp2_with fail
  refine (eq_shows _ _ Z w9 (by omega) hin9 hb9).mono ?_
  rintro e w10 ⟨rfl, hB10⟩
  have hfin : Below w.heap.size w w10 := hB09.trans (hB10.mono hB09.size)
  go_wp2
  go_ret
  exact ⟨rfl, hfin⟩

end Go.Proofs.Ybulkbsmw
