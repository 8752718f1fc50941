/-
  The argument's elements opened: from the row's reading to plain data.
-/
import Derived.Test.YbulkbsnyAMake
import Derived.ProofKit
import Derived.OpenShut
import Derived.Deep.Slices
namespace Go.Proofs.Ybulkbsny
open Go.ChangeShapes Go.WideShapes Go.ChangeAt Go.RowKit

theorem Yba.cells74 : Yba.prog.cellsOf 74 = 6 := by kernel_rfl
theorem Yba.cells5 : Yba.prog.cellsOf 5 = 1 := by kernel_rfl
theorem Yba.cells3 : Yba.prog.cellsOf 3 = 1 := by kernel_rfl
theorem Yba.cells9 : Yba.prog.cellsOf 9 = 1 := by kernel_rfl
theorem Yba.cells4 : Yba.prog.cellsOf 4 = 1 := by kernel_rfl

set_option maxRecDepth 100000 in
theorem raw_of {H : Type} {enc : TypeId × Value → H} {w : World} {base : Nat} {spare : Nat → Bool} {held : Bool} {fuel b off : Nat} {cs : List Value} {x : DataW H × List MemPlace}
    (h1 : w.cells? base ⟨b, off, none⟩ 6 = some cs) (h2 : DataW.trod enc Yba.prog w base spare held fuel 74 cs = some x) : ∃ r, RawAt w b off r := by
  obtain ⟨_, hlen, hcell⟩ := World.cells?_some h1
  obtain ⟨xs, k, hk, hxy, _, hxl, hf⟩ := DataW.trod_struct Yba.underlying74 h2
  have hxl6 : xs.length = 6 := hxl
  clear hxl
  match xs, hxl6, cs, hlen with
  | [y0, y1, y2, y3, y4, y5], _, [v0, v1, v2, v3, v4, v5], _ =>
    have g0 := hf 0 _ rfl
    have g1 := hf 1 _ rfl
    have g2 := hf 2 _ rfl
    have g3 := hf 3 _ rfl
    have g4 := hf 4 _ rfl
    have g5 := hf 5 _ rfl
    simp [Yba.cells5, Yba.cells3, Yba.cells9, Yba.cells4] at g0 g1 g2 g3 g4 g5
    obtain ⟨a0, e0, _, w0⟩ := DataW.trod_int Yba.underlying5 g0
    obtain ⟨a1, e1, _, _⟩ := DataW.trod_int Yba.underlying3 g1
    obtain ⟨a2, e2, _, w2⟩ := DataW.trod_int Yba.underlying5 g2
    obtain ⟨a3, e3, _, _⟩ := DataW.trod_int Yba.underlying3 g3
    obtain ⟨a4, e4, _, _⟩ := DataW.trod_string Yba.underlying9 g4
    obtain ⟨a5, e5, _⟩ := DataW.trod_bool Yba.underlying4 g5
    simp at e0 e1 e2 e3 e4 e5
    subst e0 e1 e2 e3 e4 e5
    have c0 := hcell 0 (by omega)
    have c1 := hcell 1 (by omega)
    have c2 := hcell 2 (by omega)
    have c3 := hcell 3 (by omega)
    have c4 := hcell 4 (by omega)
    have c5 := hcell 5 (by omega)
    rw [Addr.add_lit] at c0 c1 c2 c3 c4 c5
    have b0 := bounds_u8 w0
    have b2 := bounds_u8 w2
    exact ⟨⟨a0, a1, a2, a3, a4, a5⟩, ⟨c0, c1, c2, c3, c4, c5, b0.1, b0.2, b2.1, b2.2⟩⟩

set_option maxRecDepth 100000 in
/-- The slice that came in, as the walks ask it. -/
theorem elems_of {H : Type} {enc : TypeId × Value → H} {w : World} {held : Bool} {fuel len cap : Nat} {ao : Option Addr} {x : DataW H × List MemPlace}
    (h : DataW.trod enc Yba.prog w 0 (fun _ => true) held fuel 22 [.slice ao len cap] = some x) : len ≤ 9223372036854775807 ∧ ∃ r, Elems w ao len r := by
  rcases Deep.open_slice Yba.underlying22 h with ⟨hcs, _⟩ | ⟨a, l, c, m, n, D, Pl, hcs, _, hl, hm, hmm, _, hx⟩
  · simp at hcs
    obtain ⟨rfl, rfl, rfl⟩ := hcs
    exact ⟨by omega, fun _ => ⟨0, 0, 0, 0, ByteArray.empty, false⟩, fun h => by omega⟩
  · simp at hcs
    obtain ⟨rfl, rfl, rfl⟩ := hcs
    simp only [if_true] at hmm
    subst hmm
    unfold maxLen at hm
    refine ⟨by omega, ?_⟩
    by_cases hp : 0 < len
    · obtain ⟨b, off, sp⟩ := a
      have hs : sp = none := by
        obtain ⟨cs', h1, _⟩ := hx 0 (by omega)
        rw [Yba.cells74] at h1
        obtain ⟨_, hlen, hcell⟩ := World.cells?_some h1
        have := World.cell?_spot ((hcell 0 (by omega)).trans (List.getElem?_eq_getElem (by omega)))
        simpa [Addr.add] using this
      subst hs
      have each : ∀ i, i < len → ∃ r, RawAt w b (off + i * 6) r := fun i hi => by
        obtain ⟨cs', h1, h2⟩ := hx i (by omega)
        rw [Yba.cells74, Addr.add_lit] at h1
        exact raw_of h1 h2
      have : Inhabited Raw := ⟨⟨0, 0, 0, 0, ByteArray.empty, false⟩⟩
      obtain ⟨r, hr⟩ := Deep.choose_lt each
      exact ⟨r, fun _ => ⟨b, off, rfl, hr⟩⟩
    · exact ⟨fun _ => ⟨0, 0, 0, 0, ByteArray.empty, false⟩, fun h => absurd h hp⟩

end Go.Proofs.Ybulkbsny
