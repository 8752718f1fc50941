/-
  The law's own builder of an object, by its contract.
-/
import Derived.Test.YbulkbsnyAMem
import Derived.Deep.RegionHeld3
namespace Go.Proofs.Ybulkbsny
open Go.RowKit

def zeroMember : Value := .agg #[.string ByteArray.empty, .int .i64 0, .int .u8 0, .int .i64 0, .string ByteArray.empty, .bool false, .slice none 0 0, .slice none 0 0]
theorem Yba.info36 : (Yba.prog.info? 36).map (fun i => (i.zero, i.size, i.bytes)) = some (some zeroMember, 8, 112) := by kernel_rfl

/-- One element of the argument, as plain data. -/
structure Raw where
  k : Int
  off : Int
  kind : Int
  voff : Int
  text : ByteArray
  flag : Bool

/-- The element whose six cells begin at offset o of block b. -/
structure RawAt (w : World) (b o : Nat) (r : Raw) : Prop where
  c0 : w.cell? ⟨b, o, none⟩ = some (.int .u8 r.k)
  c1 : w.cell? ⟨b, o + 1, none⟩ = some (.int .i64 r.off)
  c2 : w.cell? ⟨b, o + 2, none⟩ = some (.int .u8 r.kind)
  c3 : w.cell? ⟨b, o + 3, none⟩ = some (.int .i64 r.voff)
  c4 : w.cell? ⟨b, o + 4, none⟩ = some (.string r.text)
  c5 : w.cell? ⟨b, o + 5, none⟩ = some (.bool r.flag)
  k0 : 0 ≤ r.k
  k1 : r.k ≤ 255
  d0 : 0 ≤ r.kind
  d1 : r.kind ≤ 255

theorem RawAt.later {w w' : World} {b o B : Nat} {r : Raw} (h : RawAt w b o r) (hB : Below B w w') (hb : b < B) : RawAt w' b o r :=
  ⟨(hB.cell (p := ⟨b, o, none⟩) hb).trans h.c0, (hB.cell (p := ⟨b, o + 1, none⟩) hb).trans h.c1, (hB.cell (p := ⟨b, o + 2, none⟩) hb).trans h.c2,
    (hB.cell (p := ⟨b, o + 3, none⟩) hb).trans h.c3, (hB.cell (p := ⟨b, o + 4, none⟩) hb).trans h.c4, (hB.cell (p := ⟨b, o + 5, none⟩) hb).trans h.c5, h.k0, h.k1, h.d0, h.d1⟩

/-- The member that the builder makes of it. -/
def Raw.mem (r : Raw) (raw : ByteArray) : Mem := { key := keyZ r.k raw, off := r.off, kind := r.kind % 6, voff := r.voff, text := r.text, flag := r.flag }

/-- Member i among a row's cells. -/
structure MemIn (xs : List Value) (i : Nat) (m : Mem) : Prop where
  c0 : xs[i * 8]? = some (.string m.key)
  c1 : xs[i * 8 + 1]? = some (.int .i64 m.off)
  c2 : xs[i * 8 + 2]? = some (.int .u8 m.kind)
  c3 : xs[i * 8 + 3]? = some (.int .i64 m.voff)
  c4 : xs[i * 8 + 4]? = some (.string m.text)
  c5 : xs[i * 8 + 5]? = some (.bool m.flag)
  c6 : xs[i * 8 + 6]? = some (.slice none 0 0)
  c7 : xs[i * 8 + 7]? = some (.slice none 0 0)

/-- A row behind the store of member k. -/
def put (xs : List Value) (o : Nat) (m : Mem) : List Value :=
  (((((((xs.set o (.string m.key)).set (o + 1) (.int .i64 m.off)).set (o + 2) (.int .u8 m.kind)).set (o + 3) (.int .i64 m.voff)).set (o + 4) (.string m.text)).set (o + 5) (.bool m.flag)).set (o + 6) (.slice none 0 0)).set (o + 7) (.slice none 0 0)

theorem put_other (xs : List Value) (o j : Nat) (m : Mem) (h : j < o) : (put xs o m)[j]? = xs[j]? := by
  unfold put
  simp (disch := omega) only [List.getElem?_set_ne]

theorem put_keep {xs : List Value} {i k : Nat} {m m' : Mem} (h : MemIn xs i m) (hi : i < k) : MemIn (put xs (k * 8) m') i m :=
  ⟨(put_other _ _ _ _ (by omega)).trans h.c0, (put_other _ _ _ _ (by omega)).trans h.c1, (put_other _ _ _ _ (by omega)).trans h.c2, (put_other _ _ _ _ (by omega)).trans h.c3,
    (put_other _ _ _ _ (by omega)).trans h.c4, (put_other _ _ _ _ (by omega)).trans h.c5, (put_other _ _ _ _ (by omega)).trans h.c6, (put_other _ _ _ _ (by omega)).trans h.c7⟩

theorem put_new {xs : List Value} {k : Nat} {m : Mem} (h : k * 8 + 8 ≤ xs.length) : MemIn (put xs (k * 8) m) k m := by
  constructor <;> unfold put <;> simp (disch := first | omega | (simp only [List.length_set]; omega)) only [List.getElem?_set_ne, List.getElem?_set_self]

/-- The world behind that store. -/
def putW (w : World) (F o : Nat) (m : Mem) : World :=
  (((((((w.setCell ⟨F, o, none⟩ (.string m.key)).setCell ⟨F, o + 1, none⟩ (.int .i64 m.off)).setCell ⟨F, o + 2, none⟩ (.int .u8 m.kind)).setCell ⟨F, o + 3, none⟩ (.int .i64 m.voff)).setCell ⟨F, o + 4, none⟩ (.string m.text)).setCell ⟨F, o + 5, none⟩ (.bool m.flag)).setCell ⟨F, o + 6, none⟩ (.slice none 0 0)).setCell ⟨F, o + 7, none⟩ (.slice none 0 0)

theorem putW_own {w : World} {base F n o : Nat} {xs : List Value} {m : Mem} (h : w.ownsRow base 36 8 (.slice (some ⟨F, 0, none⟩) n n) n xs) :
    (putW w F o m).ownsRow base 36 8 (.slice (some ⟨F, 0, none⟩) n n) n (put xs o m) :=
  ((((((((h.stored o _).1.stored (o + 1) _).1.stored (o + 2) _).1.stored (o + 3) _).1.stored (o + 4) _).1.stored (o + 5) _).1.stored (o + 6) _).1.stored (o + 7) _).1

theorem putW_size (w : World) (F o : Nat) (m : Mem) : (putW w F o m).heap.size = w.heap.size := by simp [putW, World.setCell]
theorem putW_block (w : World) (F o : Nat) (m : Mem) (j : Nat) (h : j ≠ F) : (putW w F o m).heap[j]? = w.heap[j]? := by
  unfold putW
  rw [Below.heap_setCell _ _ _ _ h, Below.heap_setCell _ _ _ _ h, Below.heap_setCell _ _ _ _ h, Below.heap_setCell _ _ _ _ h, Below.heap_setCell _ _ _ _ h, Below.heap_setCell _ _ _ _ h, Below.heap_setCell _ _ _ _ h, Below.heap_setCell _ _ _ _ h]
theorem putW_below {B : Nat} {a w : World} {F o : Nat} {m : Mem} (h : Below B a w) (hF : B ≤ F) : Below B a (putW w F o m) :=
  (((((((h.setCell hF _).setCell hF _).setCell hF _).setCell hF _).setCell hF _).setCell hF _).setCell hF _).setCell hF _

/-- After k rounds. -/
structure Built (w : World) (n : Nat) (m : Nat → Mem) (k : Nat) (xs : List Value) (wr : World) : Prop where
  own : wr.ownsRow w.heap.size 36 8 (.slice (some ⟨w.heap.size + 1, 0, none⟩) n n) n xs
  mems : ∀ i, i < k → MemIn xs i (m i)
  res : wr.heap[w.heap.size]? = some (.cells zeroVal 27 (0, 0))
  bel : Below w.heap.size w wr

theorem Built.lt {w wr : World} {n k : Nat} {m : Nat → Mem} {xs : List Value} (h : Built w n m k xs wr) : w.heap.size + 1 < wr.heap.size := (h.own.lt (w.heap.size + 1) rfl).2

theorem Built.cell {w wr : World} {n k : Nat} {m : Nat → Mem} {xs : List Value} (h : Built w n m k xs wr) (j : Nat) (hj : j < n * 8) : ∃ u, wr.cell? ⟨w.heap.size + 1, j, none⟩ = some u := by
  have hl := h.own.1
  exact ⟨xs[j]'(by omega), by rw [h.own.cellAt j hj, List.getElem?_eq_getElem (by omega)]⟩

theorem Built.step {w wr : World} {n k : Nat} {m : Nat → Mem} {xs : List Value} (h : Built w n m k xs wr) (hk : k < n) (C : Array Value) :
    Built w n m (k + 1) (put xs (k * 8) (m k)) ((putW wr (w.heap.size + 1) (k * 8) (m k)).alloc (.cells C 74)).drew := by
  have hl := h.own.1
  have hlt := h.lt
  refine ⟨((putW_own h.own).alloc _).drew, fun i hi => ?_, ?_, (((putW_below h.bel (by omega)).alloc (by rw [putW_size]; omega) _).drew)⟩
  · by_cases e : i = k
    · subst e; exact put_new (by omega)
    · exact put_keep (h.mems i (by omega)) (by omega)
  · show ((putW wr (w.heap.size + 1) (k * 8) (m k)).alloc (.cells C 74)).heap[w.heap.size]? = _
    rw [Below.heap_alloc _ _ _ (by rw [putW_size]; omega), putW_block _ _ _ _ _ (by omega)]
    exact h.res

theorem Built.memAt {w wr : World} {n k : Nat} {m : Nat → Mem} {xs : List Value} (h : Built w n m k xs wr) (hk : k ≤ n) (i : Nat) (hi : i < k) : MemAt wr (w.heap.size + 1) i (m i) := by
  have q := h.mems i hi
  exact ⟨(h.own.cellAt _ (by omega)).trans q.c0, (h.own.cellAt _ (by omega)).trans q.c1, (h.own.cellAt _ (by omega)).trans q.c2, (h.own.cellAt (i * 8 + 3) (by omega)).trans q.c3,
    (h.own.cellAt (i * 8 + 4) (by omega)).trans q.c4, (h.own.cellAt (i * 8 + 5) (by omega)).trans q.c5, (h.own.cellAt (i * 8 + 6) (by omega)).trans q.c6, (h.own.cellAt (i * 8 + 7) (by omega)).trans q.c7⟩

/-- The round's own variable, behind the store. -/
theorem keep_new {X : World} {s : Nat} (C : Array Value) (hX : X.heap.size = s) (j : Nat) (v : Value) (h : C[j]? = some v) : (X.alloc (.cells C 74)).drew.cell? ⟨s, j, none⟩ = some v := by
  show (X.alloc (.cells C 74)).cell? ⟨s, j, none⟩ = some v
  rw [World.cell?_alloc_at _ _ _ _ hX.symm]; exact h

end Go.Proofs.Ybulkbsny
