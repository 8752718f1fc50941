/-
  The proof of 'Rows.LawS3456BKindSaid', out of the walks in YbulkbsnyBMap, YbulkbsnyBNil, YbulkbsnyBZero. The frame is the kit's shell for a law, turned to this function's four parameters.
-/
import Derived.Test.YbulkbsnyRows
import Derived.Test.YbulkbsnyBMap
import Derived.Test.YbulkbsnyBNil
import Derived.Test.YbulkbsnyBZero
import Derived.WalkKit
import Derived.ProofKit
import Derived.OpenShut
import Derived.ShutString
import Derived.ChangeOld
import Derived.Below
import Derived.Deep.SlicePairs
namespace Go.Proofs.Ybulkbsny.lawS3456BKind
open Go.ChangeShapes Go.WideShapes Go.ChangeAt Go.RowKit
open Go.ChangeMaps (open_string shut_string)
set_option linter.unusedVariables false

theorem own : ownKnob Yba.prog.godebug = none := by kernel_rfl
theorem laidOut : laidOutB Yba.prog = true := by kernel_rfl

/-- What the walk is told of the entries that came in. -/
def Ents (w : World) (a : Option Addr) (len : Nat) (nm : Nat → ByteArray) (md : Nat → Int) : Prop :=
  len ≤ 9223372036854775807 ∧ (0 < len → ∃ b off, a = some ⟨b, off, none⟩ ∧ ∀ i, i < len → w.cell? ⟨b, off + i * 2, none⟩ = some (.string (nm i)) ∧ w.cell? ⟨b, off + i * 2 + 1, none⟩ = some (.int .u8 (md i)) ∧ (nm i).size ≤ maxLen ∧ 0 ≤ md i ∧ md i ≤ 255)

/-! ### The walk, for every input -/
set_option maxRecDepth 100000 in
theorem walk (a0 : Option Addr) (len0 cap0 : Nat) (nm : Nat → ByteArray) (md : Nat → Int) (a1 : ByteArray) (a2 : Int) (a3 : Bool) (w : World) (w0 : Ents w a0 len0 nm md) (w1 : a1.size ≤ maxLen) (w2 : (Lit.int .u8 a2).wf = true) :
    Calls Yba.prog 5 #[.slice a0 len0 cap0, .string a1, .int .u8 a2, .bool a3] w fun e w' => e = .returned (.bool true) ∧ Below w.heap.size w w' := by
  have b2 := bounds_u8 w2
  obtain ⟨hmax, hents⟩ := w0
  by_cases hle : len0 ≤ 1024
  · by_cases hz : 0 < len0
    · obtain ⟨b, off, rfl, hc⟩ := hents hz
      have hb : b < w.heap.size := World.block_lt_of_cell? w _ (hc 0 hz).1
      have c0 := fun i hi => (hc i hi).1
      have c1 := fun i hi => (hc i hi).2.1
      have c2 := fun i hi => (hc i hi).2.2.1
      have c3 := fun i hi => (hc i hi).2.2.2
      by_cases hp : a2 % 2 = 1
      · cases a3 with
        | true => exact nil_pick b off len0 cap0 nm md a1 a2 w hle hz b2.1 b2.2 c0 c1 c2 c3 hb hp
        | false => exact map_pick b off len0 cap0 nm md a1 a2 w hle hz b2.1 b2.2 c0 c1 c2 c3 hb hp
      · cases a3 with
        | true => exact nil_plain b off len0 cap0 nm md a1 a2 w hle hz b2.1 b2.2 c0 c1 c2 c3 w1 hb hp
        | false => exact map_plain b off len0 cap0 nm md a1 a2 w hle hz b2.1 b2.2 c0 c1 c2 c3 w1 hb hp
    · obtain rfl : len0 = 0 := by omega
      cases a3 with
      | true => exact zero_nil a0 cap0 a1 a2 w b2.1 b2.2 w1
      | false => exact zero_map a0 cap0 a1 a2 w b2.1 b2.2 w1
  · clear hents
    go_enter Yba.func5, Yba.ntmps5
    go_wp2
    go_ret
    exact ⟨rfl, Below.refl _ _⟩

/-! ### The row's step -/
set_option maxRecDepth 100000 in
theorem lifted (os : Os) (started : os.Started) (H : Type) (enc : TypeId × Value → H) :
    ReturnsInHanded {} Yba.checked os 5 .any (Rows.lawS3456BKindSpec.pre6 enc Yba.prog Yba.f5 Rows.lawS3456BKindRow.domain false) (Rows.lawS3456BKindSpec.post enc Yba.prog Yba.f5 false true false false) := by
  refine returnsInHanded_of_change (C := Yba.checked) own started (by kernel_rfl) Yba.func5
    (ChangeSpec.witness6 (enc := enc) (C := Yba.checked) false ⟨#[], #[.slice none 0 0, .string ByteArray.empty, .int .u8 0, .bool false], []⟩ 8 (by kernel_rfl) (by kernel_rfl) (by kernel_rfl) (by kernel_rfl)) ?_
  intro W base args ds gs before hval0 hW hcnd _
  have hval : ∀ (j : Nat) t v, Yba.f5.params[j]? = some t → args[j]? = some v → Value.okWide Yba.prog W .any base t v := hval0
  have hW' := hW
  obtain ⟨p, q, hA0, hV, rfl, hfz, hnd⟩ := hW
  have hA : DataW.TrodAll enc Yba.prog W 0 (fun _ => true) true Yba.f5.params.toList args.toList ds p := hA0
  rw [Yba.params5] at hA hval
  obtain ⟨v0, vs0, d0, ds0, p0, q0, hargs, rfl, rfl, h0, r0⟩ := trodAll_cons hA
  obtain ⟨v1, vs1, d1, ds1, p1, q1, rfl, rfl, rfl, h1, r1⟩ := trodAll_cons r0
  obtain ⟨v2, vs2, d2, ds2, p2, q2, rfl, rfl, rfl, h2, r2⟩ := trodAll_cons r1
  obtain ⟨v3, vs3, d3, ds3, p3, q3, rfl, rfl, rfl, h3, r3⟩ := trodAll_cons r2
  obtain ⟨rfl, rfl, rfl⟩ := trodAll_nil r3
  obtain rfl : args = #[v0, v1, v2, v3] := by cases args; simp_all
  obtain ⟨rfl, rfl⟩ := trodVars_none hV
  obtain ⟨a0, len0, cap0, rfl⟩ := okWide_slice Yba.underlying42 (hval 0 42 v0 rfl rfl)
  have k0 := h0
  have lt0 : ∀ x ∈ p0, x.block < W.heap.size := by obtain ⟨m, hm⟩ := k0; exact DataW.trod_lt m _ _ _ hm
  obtain ⟨nm, md, w0⟩ : ∃ nm md, Ents W a0 len0 nm md := by
    obtain ⟨fuel, hf⟩ := h0
    rcases Deep.open_slice_pairs Yba.underlying42 Yba.underlying44 (by kernel_rfl) rfl rfl (by kernel_rfl) (by kernel_rfl) hf with ⟨hcs, _⟩ | ⟨a, l, c, m, n, V0, V1, D0, D1, P0, P1, hcs, _, hl, hm, hmm, _, hx⟩
    · simp [Value.cells] at hcs
      obtain ⟨rfl, rfl, rfl⟩ := hcs
      exact ⟨fun _ => ByteArray.empty, fun _ => 0, by omega, fun h => by omega⟩
    · simp [Value.cells] at hcs
      obtain ⟨rfl, rfl, rfl⟩ := hcs
      simp only [if_true] at hmm
      subst hmm
      unfold maxLen at hm
      have hn : ∀ i, i < len0 → ∃ s : ByteArray, V0 i = .string s ∧ s.size ≤ maxLen := fun i hi => by
        obtain ⟨s, e, _, h⟩ := DataW.trod_string Yba.underlying9 (hx i (by omega)).2.2.1
        exact ⟨s, by simpa using e, h⟩
      have hd : ∀ i, i < len0 → ∃ z : Int, V1 i = .int .u8 z ∧ (Lit.int .u8 z).wf = true := fun i hi => by
        obtain ⟨z, e, _, h⟩ := DataW.trod_int Yba.underlying5 (hx i (by omega)).2.2.2
        exact ⟨z, by simpa using e, h⟩
      obtain ⟨nm, hnm⟩ := Deep.choose_lt hn
      obtain ⟨md, hmd⟩ := Deep.choose_lt hd
      refine ⟨nm, md, by omega, fun hp => ?_⟩
      obtain ⟨b, off, sp⟩ := a
      have hs : sp = none := by
        have := World.cell?_spot (hx 0 (by omega)).1
        simpa [Addr.add] using this
      subst hs
      refine ⟨b, off, rfl, fun i hi => ?_⟩
      have hxi := hx i (by omega)
      rw [Addr.add_lit, Addr.add_lit, (hnm i hi).1, (hmd i hi).1] at hxi
      have bd := bounds_u8 (hmd i hi).2
      exact ⟨hxi.1, by rw [Nat.add_assoc]; exact hxi.2.1, (hnm i hi).2, bd.1, bd.2⟩
  obtain ⟨a1, rfl, rfl, rfl, w1⟩ := open_string Yba.underlying9 (hval 1 9 v1 rfl rfl) h1
  obtain ⟨a2, rfl, rfl, rfl, w2⟩ := open_int Yba.underlying5 (hval 2 5 v2 rfl rfl) h2
  obtain ⟨a3, rfl, rfl, rfl⟩ := open_bool Yba.underlying4 (hval 3 4 v3 rfl rfl) h3
  clear hA0 hval0
  refine (walk a0 len0 cap0 nm md a1 a2 a3 W w0 w1 w2).mono fun e W' ⟨he, bel⟩ => ?_
  subst he
  exact ⟨_, rfl, _, _, _, [], _, [], hW', trodAll_mk1 (shut_bool Yba.underlying4 _), (trodAll_cons_mk (Below.trod laidOut (by kernel_rfl) (of_decide_eq_true (by kernel_rfl)) k0 bel lt0) (trodAll_cons_mk (shut_string Yba.underlying9 w1) (trodAll_cons_mk (shut_int Yba.underlying5 w2) (trodAll_cons_mk (shut_bool Yba.underlying4 a3) trodAll_mk0)))), rfl, bel.frame _, fun h => by cases h⟩

theorem over : Rows.lawS3456BKindRow.holds Yba.pinned (OpenSpec.ofChange Rows.lawS3456BKindSpec) :=
  OpenClaim.holds_of_wide 5 Yba.f5 rfl rfl rfl rfl rfl rfl rfl ⟨rfl, rfl, rfl, rfl, rfl⟩ rfl rfl rfl rfl rfl (by kernel_rfl) Yba.func5 (by kernel_rfl)
    (of_decide_eq_true (by kernel_rfl)) (by unfold Func.isWrapper; first | (rw [if_pos (by decide +kernel)]; kernel_rfl) | (rw [if_neg (by decide +kernel)]; exact ⟨rfl, rfl⟩))
    (fun os started H enc _ => lifted os started H enc)

/-- The statement. -/
theorem proved : Rows.LawS3456BKindSaid := over
end Go.Proofs.Ybulkbsny.lawS3456BKind
