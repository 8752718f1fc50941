/-
  A byte slice as it is read: the views that the two laws over 'appendName' go by.
-/
import Derived.Test.YbulkbsmwAParts
namespace Go.Proofs.Ybulkbsmw
open Go.RowKit

/-- What a walk is told of a slice of integers that came in. -/
def IsRow (k : IntKind) (w : World) (a : Option Addr) (len cap : Nat) (zs : List Int) : Prop :=
  (a = none ∧ len = 0 ∧ cap = 0 ∧ zs = []) ∨
  ∃ x, a = some x ∧ len ≤ cap ∧ cap ≤ maxLen ∧ zs.length = cap ∧ (∀ i, i < zs.length → w.cell? (x.add i) = some (.int k (zs.getD i 0))) ∧ ∀ n ∈ zs, (Lit.int k n).wf = true

/-- The value v is a byte slice that reads zs. -/
def Shows (w : World) (v : Value) (zs : List Int) : Prop :=
  ∃ ao c, v = .slice ao zs.length c ∧ (ao = none → c = 0) ∧ (0 < zs.length → ∃ b off, ao = some ⟨b, off, none⟩ ∧ ∀ j, j < zs.length → w.cell? ⟨b, off + j, none⟩ = some (.int .u8 (zs.getD j 0)))

def cellsOf (zs : List Int) : List Value := zs.map (Value.int .u8)
theorem cellsOf_length (zs : List Int) : (cellsOf zs).length = zs.length := by simp [cellsOf]
theorem cellsOf_append (a b : List Int) : cellsOf (a ++ b) = cellsOf a ++ cellsOf b := by simp [cellsOf]
theorem cellsOf_get {zs : List Int} {j : Nat} {u : Value} (h : (cellsOf zs)[j]? = some u) : j < zs.length ∧ u = .int .u8 (zs.getD j 0) := by
  simp only [cellsOf, List.getElem?_map, Option.map_eq_some_iff] at h
  obtain ⟨z, hz, rfl⟩ := h
  obtain ⟨hlt, rfl⟩ := List.getElem?_eq_some_iff.1 hz
  exact ⟨hlt, by simp [List.getD, hlt]⟩
theorem cellsOf_at {zs : List Int} {j : Nat} (h : j < zs.length) : (cellsOf zs)[j]? = some (.int .u8 (zs.getD j 0)) := by
  simp [cellsOf, List.getD, h]
theorem cellsOf_one (zs : List Int) : ∀ u ∈ cellsOf zs, u.oneCell' = true := ints_oneCell _ _

theorem add_plain (b off j : Nat) : (⟨b, off, none⟩ : Addr).add j = ⟨b, off + j, none⟩ := Addr.add_lit ..

theorem shows_of_row {w : World} {a : Option Addr} {len cap : Nat} {zs : List Int} (h : IsRow .u8 w a len cap zs) : Shows w (.slice a len cap) (zs.take len) ∧ (zs.take len).length = len := by
  rcases h with ⟨rfl, rfl, rfl, rfl⟩ | ⟨x, rfl, hl, hm, hz, hc, _⟩
  · exact ⟨⟨none, 0, rfl, fun _ => rfl, fun h => by simp at h⟩, rfl⟩
  · have hlen : (zs.take len).length = len := by simp; omega
    refine ⟨⟨some x, cap, by rw [hlen], (fun h => by cases h), fun h => ?_⟩, hlen⟩
    obtain ⟨b, off, sp⟩ := x
    have hs : sp = none := by
      have := World.cell?_spot (hc 0 (by omega))
      simpa [Addr.add] using this
    subst hs
    refine ⟨b, off, rfl, fun j hj => ?_⟩
    have hj' : j < len := by omega
    have := hc j (by omega)
    rw [add_plain] at this
    rw [this]
    simp [List.getD, hj']

theorem shows_of_own {w : World} {base n : Nat} {v : Value} {zs : List Int} (h : w.ownsRow base 5 1 v n (cellsOf zs)) : Shows w v zs := by
  have hn : zs.length = n := by have := h.1; rw [cellsOf_length] at this; omega
  rcases h.2 with ⟨rfl, h0⟩ | ⟨g, cap, cur, rfl, _⟩
  · exact ⟨none, 0, by rw [hn, h0], fun _ => rfl, fun h => by omega⟩
  · refine ⟨some ⟨g, 0, none⟩, cap, by rw [hn], (fun h => by cases h), fun _ => ⟨g, 0, rfl, fun j hj => ?_⟩⟩
    have := h.cells (g := g) rfl j _ (cellsOf_at hj)
    rw [add_plain] at this
    exact this

theorem Shows.later {w w' : World} {v : Value} {zs : List Int} (h : Shows w v zs) (hb : Below w.heap.size w w') : Shows w' v zs := by
  obtain ⟨ao, c, rfl, hn, h⟩ := h
  refine ⟨ao, c, rfl, hn, fun hp => ?_⟩
  obtain ⟨b, off, rfl, hc⟩ := h hp
  exact ⟨b, off, rfl, fun j hj => (hb.cell (p := ⟨b, off + j, none⟩) (World.block_lt_of_cell? w _ (hc j hj))).trans (hc j hj)⟩

/-- A source as the laws on append ask it. -/
theorem Shows.src {w : World} {ao : Option Addr} {n c : Nat} {zs : List Int} (h : Shows w (.slice ao n c) zs) : ∀ ad, ao = some ad → ∀ j u, (cellsOf zs)[j]? = some u → w.cell? (ad.add j) = some u := by
  obtain ⟨ao', c', hv, _, h⟩ := h
  simp only [Value.slice.injEq] at hv
  obtain ⟨rfl, rfl, rfl⟩ := hv
  intro ad had j u hu
  obtain ⟨hj, rfl⟩ := cellsOf_get hu
  obtain ⟨b, off, hao, hc⟩ := h (by omega)
  rw [hao] at had
  cases had
  rw [add_plain]
  exact hc j hj

/-- A source as the law on copy asks it. -/
theorem Shows.pos {w : World} {ao : Option Addr} {n c : Nat} {zs : List Int} (h : Shows w (.slice ao n c) zs) (hp : 0 < zs.length) : ∃ ad, ao = some ad ∧ ∀ j u, (cellsOf zs)[j]? = some u → w.cell? (ad.add j) = some u := by
  have h2 := h
  obtain ⟨ao', c', hv, _, h⟩ := h
  simp only [Value.slice.injEq] at hv
  obtain ⟨rfl, rfl, rfl⟩ := hv
  obtain ⟨b, off, hao, _⟩ := h hp
  exact ⟨_, hao, h2.src _ hao⟩

theorem eq_shows (v v' : Value) (zs : List Int) (w : World) (hn : zs.length ≤ 16384) (h : Shows w v zs) (h' : Shows w v' zs) :
    Calls Yba.prog 9 #[v, v'] w fun e w' => e = .returned (.bool true) ∧ Below w.heap.size w w' := by
  obtain ⟨ao, c, rfl, _, h⟩ := h
  obtain ⟨bo, c', rfl, _, h'⟩ := h'
  by_cases h0 : 0 < zs.length
  · obtain ⟨b, off, rfl, hc⟩ := h h0
    obtain ⟨b', off', rfl, hc'⟩ := h' h0
    exact eq_some b off b' off' zs.length c c' (fun j => zs.getD j 0) w hn hc hc'
  · obtain rfl : zs = [] := by simpa using h0
    exact eq_none ao bo c c' w

/-- The bytes of the length and the name's bytes, as numbers. -/
def encZ (x : Nat) : List Int := if x < 128 then [(x : Int)] else [(x : Int) % 128 + 128, (x : Int) / 128]
theorem encC_eq (x : Nat) : encC x = cellsOf (encZ x) := by unfold encC encZ cellsOf; split <;> rfl
theorem encZ_length (x : Nat) : 1 ≤ (encZ x).length ∧ (encZ x).length ≤ 2 := by unfold encZ; split <;> simp
def strZ (s : ByteArray) : List Int := s.data.toList.map fun b => (b.toNat : Int)
theorem strC_eq (s : ByteArray) : Lib.strCells s = cellsOf (strZ s) := by simp [strCells_eq, strZ, cellsOf]
theorem strZ_length (s : ByteArray) : (strZ s).length = s.size := by simp only [strZ, List.length_map, Array.length_toList]; rfl

theorem splice_all {L cs : List Value} (h : cs.length = L.length) : splice L 0 cs = cs := by
  simp [splice, h]

end Go.Proofs.Ybulkbsmw
