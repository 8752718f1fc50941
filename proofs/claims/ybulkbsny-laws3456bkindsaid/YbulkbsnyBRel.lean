/-
  The law 'Kind': what holds after k rounds of the loop that builds the files and the map. No walk.
-/
import Derived.Test.YbulkbsnyBParts
namespace Go.Proofs.Ybulkbsny
open Go.RowKit Go.Maps

theorem Yba.info48 : (Yba.prog.info? 48).map (fun i => (i.zero, i.size, i.bytes)) = some (some (.pointer none), 1, 8) := by kernel_rfl
theorem law : Keyed Yba.prog 9 := string_keyed Yba.underlying9
theorem zero48 (w : World) : (zeroValue 48).run Yba.prog w = .ok (.pointer none) w := by kernel_rfl

/-- How an element of the map reads: as itself. -/
def Rv (v : Value) : Option (DataW Value × List MemPlace) := some (.held v, [])

/-- The file of the last of the first k entries whose name is t. -/
def lastV (nm : Nat → ByteArray) (xs : List Value) (t : ByteArray) : Nat → Value
  | 0 => .pointer none
  | k + 1 => if (nm k).data.toList = t.data.toList then xs.getD k (.pointer none) else lastV nm xs t k

theorem lastV_set (nm : Nat → ByteArray) (xs : List Value) (t : ByteArray) (i : Nat) (v : Value) : ∀ k, k ≤ i → lastV nm (xs.set i v) t k = lastV nm xs t k
  | 0, _ => rfl
  | k + 1, h => by
    unfold lastV
    rw [lastV_set nm xs t i v k (by omega)]
    have e : (xs.set i v).getD k (.pointer none) = xs.getD k (.pointer none) := by
      simp only [List.getD]; rw [List.getElem?_set_ne (by omega)]
    rw [e]

theorem lastV_next (nm : Nat → ByteArray) (xs : List Value) (t : ByteArray) (k : Nat) (v : Value) (hk : k < xs.length) :
    lastV nm (xs.set k v) t (k + 1) = if (nm k).data.toList = t.data.toList then v else lastV nm xs t k := by
  show (if _ then (xs.set k v).getD k (.pointer none) else lastV nm (xs.set k v) t k) = _
  rw [lastV_set nm xs t k v k (Nat.le_refl _)]
  have e : (xs.set k v).getD k (.pointer none) = v := by simp [List.getD, hk]
  rw [e]

/-- A file's pointer whose blocks lie from 'base' on. -/
def FileIn (base : Nat) (w : World) (v sv dv : Value) : Prop :=
  (v = .pointer none ∧ sv = .pointer none ∧ dv = .pointer none) ∨
  (∃ b, base ≤ b ∧ v = .pointer (some ⟨b, 0, none⟩) ∧ w.cell? ⟨b, 5, none⟩ = some (.pointer none) ∧ sv = .pointer none ∧ dv = .pointer none) ∨
  ∃ b d so, base ≤ b ∧ base ≤ d ∧ v = .pointer (some ⟨b, 0, none⟩) ∧ w.cell? ⟨b, 5, none⟩ = some (.pointer (some ⟨d, 0, none⟩)) ∧ w.cell? ⟨d, 2, none⟩ = some (.pointer so) ∧ sv = .pointer so ∧ dv = .pointer (some ⟨d, 0, none⟩)

theorem FileIn.toAt {base : Nat} {w : World} {v sv dv : Value} (h : FileIn base w v sv dv) : FileAt w v sv dv := by
  rcases h with h | ⟨b, _, h⟩ | ⟨b, d, so, _, _, h⟩
  · exact .inl h
  · exact .inr (.inl ⟨b, h⟩)
  · exact .inr (.inr ⟨b, d, so, h⟩)

theorem FileIn.kept {base : Nat} {w w' : World} {v sv dv : Value} (h : FileIn base w v sv dv) (hk : ∀ j, base ≤ j → j < w.heap.size → w'.heap[j]? = w.heap[j]?) : FileIn base w' v sv dv := by
  have hc : ∀ b o u, base ≤ b → w.cell? ⟨b, o, none⟩ = some u → w'.cell? ⟨b, o, none⟩ = some u := fun b o u hb hu =>
    (World.cell?_of_block (w := w) (a := ⟨b, o, none⟩) (hk b hb (World.block_lt_of_cell? w _ hu))).trans hu
  rcases h with h | ⟨b, hb, h1, h2, h3⟩ | ⟨b, d, so, hb, hd, h1, h2, h3, h4⟩
  · exact .inl h
  · exact .inr (.inl ⟨b, hb, h1, hc _ _ _ hb h2, h3⟩)
  · exact .inr (.inr ⟨b, d, so, hb, hd, h1, hc _ _ _ hb h2, hc _ _ _ hd h3, h4⟩)

/-- After k rounds: the files' row, the map's block M, each file, and all that was there. -/
structure Rel (w : World) (n M : Nat) (nm : Nat → ByteArray) (k : Nat) (xs : List Value) (wr : World) : Prop where
  own : wr.ownsRow w.heap.size 48 1 (.slice (some ⟨w.heap.size, 0, none⟩) n n) n xs
  map : ∃ D : DataW Value, wr.ownsMap Yba.prog 9 Rv M k D ∧ ∀ t : ByteArray, D.atKey (.string t.data.toList) (.held (.pointer none)) = .held (lastV nm xs t k)
  files : ∀ j, j < k → ∃ v sv dv, xs[j]? = some v ∧ FileIn (M + 1) wr v sv dv
  bel : Below w.heap.size w wr
  room : M + 1 ≤ wr.heap.size
  apart : w.heap.size < M

theorem Rel.start {w w1 : World} {n : Nat} {nm : Nat → ByteArray} {xs : List Value} (hown : w1.ownsRow w.heap.size 48 1 (.slice (some ⟨w.heap.size, 0, none⟩) n n) n xs) (hb : Below w.heap.size w w1) (hlt : w.heap.size < w1.heap.size) :
    Rel w n w1.heap.size nm 0 xs (w1.alloc (.map #[] 0)) :=
  ⟨hown.alloc _, ⟨.map [], World.ownsMap_made _ _ _ _, fun _ => rfl⟩, fun _ h => by omega, hb.alloc (by omega) _, by simp, hlt⟩

/-- The row's cell that the round writes. -/
theorem Rel.cell {w wr : World} {n M k : Nat} {nm : Nat → ByteArray} {xs : List Value} (h : Rel w n M nm k xs wr) (hk : k < n) :
    (∃ u, wr.cell? ⟨w.heap.size, k, none⟩ = some u) ∧ wr.frozen? ⟨w.heap.size, k, none⟩ = false ∧ w.heap.size < wr.heap.size ∧ xs.length = n := by
  have hl : xs.length = n := by have := h.own.1; omega
  refine ⟨⟨xs[k]'(by omega), ?_⟩, h.own.frozenAt k, by have := h.room; have := h.apart; omega, hl⟩
  rw [h.own.cellAt k (by omega), List.getElem?_eq_getElem (by omega)]

theorem Rel.step {w wr wb w2 : World} {n M k : Nat} {nm : Nat → ByteArray} {xs : List Value} {v sv dv : Value} {D : DataW Value} (h : Rel w n M nm k xs wr) (hk : k < n)
    (hD : ∀ t : ByteArray, D.atKey (.string t.data.toList) (.held (.pointer none)) = .held (lastV nm xs t k)) (hDm : IsMap D)
    (hg : (wr.setCell ⟨w.heap.size, k, none⟩ v).grownBy wb none) (hv : FileIn (M + 1) wb v sv dv)
    (own2 : w2.ownsMap Yba.prog 9 Rv M (k + 1) (D.put (.string (nm k).data.toList) (.held v))) (grow2 : wb.grownBy w2 (some M)) :
    Rel w n M nm (k + 1) (xs.set k v) w2 := by
  have hap := h.apart
  have hroom := h.room
  have hsa : wr.heap.size ≤ wb.heap.size := by have := hg.size; simpa [World.setCell] using this
  have hl : xs.length = n := by have := h.own.1; omega
  have hsz2 := grow2.size
  have hkeep : ∀ j, M + 1 ≤ j → j < wb.heap.size → w2.heap[j]? = wb.heap[j]? := fun j hj hlt => grow2.block j hlt (by simp; omega)
  have hkeep2 : ∀ j, M + 1 ≤ j → j < wr.heap.size → w2.heap[j]? = wr.heap[j]? := fun j hj hlt => by
    rw [hkeep j hj (by omega), hg.block j (by simpa [World.setCell] using hlt) (by simp), Below.heap_setCell _ _ _ _ (by show j ≠ w.heap.size; omega)]
  have ownb := ((h.own.stored k v).1.kept hg (.inr (by simp [Value.ownBlock])))
  refine ⟨ownb.kept grow2 (.inr ?_), ⟨_, own2, fun t => ?_⟩, fun j hj => ?_, ?_, by omega, hap⟩
  · simp [Value.ownBlock]; omega
  · rw [lastV_next nm xs t k v (by omega)]
    by_cases e : (nm k).data.toList = t.data.toList
    · rw [if_pos e, e]; exact atKey_put_same (k := .string t.data.toList) hDm (by simp [WideAt.IsKeyLit]) _ _
    · rw [if_neg e, atKey_put_other (by intro h; simp only [Lit.string.injEq] at h; exact e h.symm)]; exact hD t
  · by_cases e : j = k
    · subst e
      exact ⟨v, sv, dv, by simp [hl, hk], hv.kept hkeep⟩
    · obtain ⟨v', sv', dv', h1, h2⟩ := h.files j (by omega)
      exact ⟨v', sv', dv', by rw [List.getElem?_set_ne (by omega)]; exact h1, h2.kept hkeep2⟩
  · have b1 : Below w.heap.size w wb := (h.bel.setCell (p := ⟨w.heap.size, k, none⟩) (Nat.le_refl _) v).grown hg (by simp [World.setCell]; omega) (fun _ h => by cases h)
    exact b1.grown grow2 (by omega) (fun j hj => by cases hj; omega)

/-- The three makes of a file that is not nil, by the blocks that its round lays. -/
theorem file_one {W : World} {base m : Nat} {S : Array Value} (o : Obj) (hm : W.heap.size = m) (hb : base ≤ m) (h5 : S[5]? = some (.pointer none)) :
    FileIn base ((W.alloc o).alloc (.cells S 57)) (.pointer (some ⟨m + 1, 0, none⟩)) (.pointer none) (.pointer none) := by
  refine .inr (.inl ⟨m + 1, by omega, rfl, ?_, rfl, rfl⟩)
  rw [World.cell?_alloc_at _ _ _ _ (by simp [hm])]; exact h5
theorem file_two {W : World} {base m : Nat} {S C : Array Value} (o : Obj) (hm : W.heap.size = m) (hb : base ≤ m) (h5 : S[5]? = some (.pointer (some ⟨m + 1, 0, none⟩))) (h2 : C[2]? = some (.pointer none)) :
    FileIn base (((W.alloc o).alloc (.cells C 64)).alloc (.cells S 57)) (.pointer (some ⟨m + 1 + 1, 0, none⟩)) (.pointer none) (.pointer (some ⟨m + 1, 0, none⟩)) := by
  refine .inr (.inr ⟨m + 1 + 1, m + 1, none, by omega, by omega, rfl, ?_, ?_, rfl, rfl⟩)
  · rw [World.cell?_alloc_at _ _ _ _ (by simp [hm])]; exact h5
  · rw [World.cell?_alloc_past _ _ _ (by simp [hm]), World.cell?_alloc_at _ _ _ _ (by simp [hm])]; exact h2
theorem file_three {W : World} {base m : Nat} {S C : Array Value} (o o' : Obj) (hm : W.heap.size = m) (hb : base ≤ m) (h5 : S[5]? = some (.pointer (some ⟨m + 1 + 1, 0, none⟩))) (h2 : C[2]? = some (.pointer (some ⟨m + 1, 0, none⟩))) :
    FileIn base ((((W.alloc o).alloc o').alloc (.cells C 64)).alloc (.cells S 57)) (.pointer (some ⟨m + 1 + 1 + 1, 0, none⟩)) (.pointer (some ⟨m + 1, 0, none⟩)) (.pointer (some ⟨m + 1 + 1, 0, none⟩)) := by
  refine .inr (.inr ⟨m + 1 + 1 + 1, m + 1 + 1, some ⟨m + 1, 0, none⟩, by omega, by omega, rfl, ?_, ?_, rfl, rfl⟩)
  · rw [World.cell?_alloc_at _ _ _ _ (by simp [hm])]; exact h5
  · rw [World.cell?_alloc_past _ _ _ (by simp [hm]), World.cell?_alloc_at _ _ _ _ (by simp [hm])]; exact h2

theorem grown_trans {a b c : World} (h : a.grownBy b none) (k : b.grownBy c none) : a.grownBy c none :=
  ⟨k.os.trans h.os, k.tape.trans h.tape, k.output.trans h.output, Nat.le_trans h.size k.size, fun j hj hn => (k.block j (Nat.lt_of_lt_of_le hj h.size) hn).trans (h.block j hj hn)⟩
theorem grown1 (W : World) (o : Obj) : W.grownBy (W.alloc o) none := World.grownBy_alloc _ _ _
theorem grown2 (W : World) (o o' : Obj) : W.grownBy ((W.alloc o).alloc o') none := grown_trans (grown1 _ _) (grown1 _ _)
theorem grown3 (W : World) (o o' o'' : Obj) : W.grownBy (((W.alloc o).alloc o').alloc o'') none := grown_trans (grown2 _ _ _) (grown1 _ _)
theorem grown4 (W : World) (o o' o'' o3 : Obj) : W.grownBy ((((W.alloc o).alloc o').alloc o'').alloc o3) none := grown_trans (grown3 _ _ _ _) (grown1 _ _)

/-- A look-up at the end: the file, as 'kind' asks it. -/
theorem Rel.last {w wr : World} {n M k : Nat} {nm : Nat → ByteArray} {xs : List Value} (h : Rel w n M nm k xs wr) (t : ByteArray) : ∃ sv dv, FileAt wr (lastV nm xs t k) sv dv := by
  have key : ∀ m, m ≤ k → ∃ sv dv, FileAt wr (lastV nm xs t m) sv dv := by
    intro m
    induction m with
    | zero => exact fun _ => ⟨_, _, .inl ⟨rfl, rfl, rfl⟩⟩
    | succ m ih =>
      intro hm
      unfold lastV
      split
      · obtain ⟨v, sv, dv, h1, h2⟩ := h.files m (by omega)
        refine ⟨sv, dv, ?_⟩
        have e : xs.getD m (.pointer none) = v := by simp [List.getD, h1]
        rw [e]; exact h2.toAt
      · exact ih (by omega)
  exact key k (Nat.le_refl _)

theorem Rel.look {w wr : World} {n M k : Nat} {nm : Nat → ByteArray} {xs : List Value} (h : Rel w n M nm k xs wr) (t : ByteArray) (ht : t.size ≤ maxLen) (o : Obj) :
    (Instr.lookup 47 (.map (some M)) (.string t) false).run Yba.prog (wr.alloc o) = .ok (lastV nm xs t k) (wr.alloc o) := by
  obtain ⟨D, hD, hat⟩ := h.map
  obtain ⟨v, ps, hrun, hv⟩ := (hD.alloc o).lookup law Yba.underlying47 (zero48 _) (zd := .held (.pointer none)) (zp := []) rfl (WideMaps.keyOf_string_mk Yba.underlying9 ht)
  rw [hat t] at hv
  simp only [Rv, Option.some.injEq, Prod.mk.injEq, DataW.held.injEq] at hv
  rw [hrun, hv.1]

theorem lastV_none (nm : Nat → ByteArray) (xs : List Value) (t : ByteArray) : ∀ n, (∀ j, j < n → (nm j).data.toList ≠ t.data.toList) → lastV nm xs t n = .pointer none
  | 0, _ => rfl
  | n + 1, h => by
    unfold lastV
    rw [if_neg (h n (by omega))]
    exact lastV_none nm xs t n (fun j hj => h j (by omega))

theorem lastV_hit (nm : Nat → ByteArray) (xs : List Value) (t : ByteArray) (q : Nat) (hq : (nm q).data.toList = t.data.toList) :
    ∀ n, q < n → (∀ j, q + 1 ≤ j → j < n → (nm j).data.toList ≠ t.data.toList) → lastV nm xs t n = xs.getD q (.pointer none)
  | 0, h, _ => by omega
  | n + 1, h, hj => by
    unfold lastV
    by_cases e : q = n
    · subst e; rw [if_pos hq]
    · rw [if_neg (hj n (by omega) (by omega))]
      exact lastV_hit nm xs t q hq n (by omega) (fun j a b => hj j a (by omega))

theorem Rel.fileAt {w wr : World} {n M k : Nat} {nm : Nat → ByteArray} {xs : List Value} (h : Rel w n M nm k xs wr) {q : Nat} (hq : q < n) : wr.cell? ⟨w.heap.size, q, none⟩ = some (xs.getD q (.pointer none)) := by
  have hl : xs.length = n := by have := h.own.1; omega
  rw [h.own.cellAt q (by omega), List.getElem?_eq_getElem (by omega)]
  simp [List.getD, hl, hq]

/-- After some rounds without a map: the files' row, and all that was there. -/
structure RelN (w : World) (n : Nat) (xs : List Value) (wr : World) : Prop where
  own : wr.ownsRow w.heap.size 48 1 (.slice (some ⟨w.heap.size, 0, none⟩) n n) n xs
  bel : Below w.heap.size w wr

theorem RelN.cell {w wr : World} {n k : Nat} {xs : List Value} (h : RelN w n xs wr) (hk : k < n) :
    (∃ u, wr.cell? ⟨w.heap.size, k, none⟩ = some u) ∧ wr.frozen? ⟨w.heap.size, k, none⟩ = false ∧ w.heap.size < wr.heap.size := by
  have hl : xs.length = n := by have := h.own.1; omega
  refine ⟨⟨xs[k]'(by omega), ?_⟩, h.own.frozenAt k, (h.own.lt w.heap.size rfl).2⟩
  rw [h.own.cellAt k (by omega), List.getElem?_eq_getElem (by omega)]

theorem RelN.step {w wr wb : World} {n k : Nat} {xs : List Value} {v : Value} (h : RelN w n xs wr) (hg : (wr.setCell ⟨w.heap.size, k, none⟩ v).grownBy wb none) : RelN w n (xs.set k v) wb := by
  have hlt := (h.own.lt w.heap.size rfl).2
  exact ⟨(h.own.stored k v).1.kept hg (.inr (by simp [Value.ownBlock])), (h.bel.setCell (p := ⟨w.heap.size, k, none⟩) (Nat.le_refl _) v).grown hg (by simp [World.setCell]; omega) (fun _ h => by cases h)⟩

theorem look_none (t : ByteArray) (ht : t.size ≤ maxLen) (w : World) : (Instr.lookup 47 (.map none) (.string t) false).run Yba.prog w = .ok (.pointer none) w := by
  have := Maps.look_nil (w := w) false law Yba.underlying47 (zero48 w) (WideMaps.keyOf_string_mk Yba.underlying9 ht)
  simpa using this

end Go.Proofs.Ybulkbsny
