/-
  THE PROOF OF 'Rows.FnShortestCycleIsAShortestWaitCycleSaid'. The frame (the row's step) follows the shells that were given for laws over slices; the walks lie in the texts that are imported.
-/
import Derived.Test.Qxb6616799aRows
import Derived.WalkKit
import Derived.ProofKit
import Derived.OpenShut
import Derived.ShutString
import Derived.ChangeOld
import Derived.Below
import Derived.Deep.Matrix
import Derived.Test.Qxb6616799aLaw
namespace Go.Proofs.Qxb6616799a.fnShortestCycleIsAShortestWaitCycle
open Go.ChangeShapes Go.WideShapes Go.ChangeAt Go.RowKit Go.Deep
set_option linter.unusedVariables false

theorem own : ownKnob Try.prog.godebug = none := by kernel_rfl
theorem laidOut : laidOutB Try.prog = true := by kernel_rfl

/-- A slice of ints that came in, as the walk is told it. -/
theorem rin_of {W : World} {a0 : Option Addr} {m c : Nat} {zs : List Int} (h : (a0 = none ∧ m = 0) ∨ ∃ x, a0 = some x ∧ m ≤ zs.length ∧ ∀ i, i < zs.length → W.cell? (x.add i) = some (.int .i64 (zs.getD i 0))) :
    RIn W a0 m (fun i => zs.getD i 0) := by
  intro h0
  rcases h with ⟨_, rfl⟩ | ⟨x, rfl, hl, hc⟩
  · exact absurd h0 (Nat.lt_irrefl 0)
  · obtain ⟨b, off, spot⟩ := x
    have hspot : spot = none := by simpa [Addr.add] using World.cell?_spot (hc 0 (by omega))
    subst hspot
    exact ⟨b, off, rfl, fun i hi => by rw [← add_plain]; exact hc i (by omega)⟩

/-! ### THE ROW's STEP -/
set_option maxRecDepth 100000 in
theorem lifted (os : Os) (started : os.Started) (H : Type) (enc : TypeId × Value → H) :
    ReturnsInHanded {} Try.checked os 3 .any (Rows.fnShortestCycleIsAShortestWaitCycleSpec.pre6 enc Try.prog Try.f3 Rows.fnShortestCycleIsAShortestWaitCycleRow.domain false) (Rows.fnShortestCycleIsAShortestWaitCycleSpec.post enc Try.prog Try.f3 false true false false) := by
  refine returnsInHanded_of_change (C := Try.checked) own started (by kernel_rfl) Try.func3
    (ChangeSpec.witness6 (enc := enc) (C := Try.checked) false ⟨#[], #[.slice none 0 0, .int .i64 0, .slice none 0 0], []⟩ 8 (by kernel_rfl) (by kernel_rfl) (by kernel_rfl) (by kernel_rfl)) ?_
  intro W base args ds gs before hval0 hW hcnd _
  have hval : ∀ (j : Nat) t v, Try.f3.params[j]? = some t → args[j]? = some v → Value.okWide Try.prog W .any base t v := hval0
  have hW' := hW
  obtain ⟨p, q, hA0, hV, rfl, hfz, hnd⟩ := hW
  have hA : DataW.TrodAll enc Try.prog W 0 (fun _ => true) true Try.f3.params.toList args.toList ds p := hA0
  rw [Try.params3] at hA hval
  obtain ⟨v0, vs0, d0, ds0, p0, q0, hargs, rfl, rfl, h0, r0⟩ := trodAll_cons hA
  obtain ⟨v1, vs1, d1, ds1, p1, q1, rfl, rfl, rfl, h1, r1⟩ := trodAll_cons r0
  obtain ⟨v2, vs2, d2, ds2, p2, q2, rfl, rfl, rfl, h2, r2⟩ := trodAll_cons r1
  obtain ⟨rfl, rfl, rfl⟩ := trodAll_nil r2
  obtain rfl : args = #[v0, v1, v2] := by cases args; simp_all
  obtain ⟨rfl, rfl⟩ := trodVars_none hV
  obtain ⟨a0, len0, cap0, rfl⟩ := okWide_slice Try.underlying22 (hval 0 22 v0 rfl rfl)
  have k0 := h0
  have lt0 : ∀ x ∈ p0, x.block < W.heap.size := by obtain ⟨m, hm⟩ := k0; exact DataW.trod_lt m _ _ _ hm
  obtain ⟨A, L, C, Y, w0⟩ : ∃ A L C Y, GRaw W a0 len0 A L C Y := by
    obtain ⟨fuel, hf⟩ := h0
    rcases open_int_rows Try.underlying22 Try.underlying23 Try.underlying3 (by kernel_rfl) (by kernel_rfl) hf with ⟨hcs, _⟩ | ⟨x, l, c, A, L, C, Z, hcs, _, hl, hm, _, hrows⟩
    · simp [Value.cells] at hcs
      obtain ⟨rfl, rfl, rfl⟩ := hcs
      exact ⟨fun _ => none, fun _ => 0, fun _ => 0, fun _ _ => 0, fun h => absurd h (Nat.lt_irrefl 0), fun r hr => absurd hr (Nat.not_lt_zero _)⟩
    · simp [Value.cells] at hcs
      obtain ⟨rfl, rfl, rfl⟩ := hcs
      refine ⟨A, L, C, fun r i => (Z r).getD i 0, fun hpos => ?_, fun r hr => ?_⟩
      · obtain ⟨b, off, spot⟩ := x
        have hspot : spot = none := by simpa [Addr.add] using World.cell?_spot (hrows 0 (by omega)).1
        subst hspot
        exact ⟨b, off, rfl, fun r hr => by rw [← add_plain]; exact (hrows r (by omega)).1⟩
      · obtain ⟨_, hLC, _, hZ, _, hnone, hsome⟩ := hrows r (by omega)
        refine rin_of (c := 0) ?_
        cases hA' : A r with
        | none => exact .inl ⟨rfl, by have := hnone hA'; omega⟩
        | some a' => exact .inr ⟨a', rfl, by omega, fun i hi => (hsome a' hA').2 i (by omega)⟩
  obtain ⟨a1, rfl, rfl, rfl, w1⟩ := open_int Try.underlying3 (hval 1 3 v1 rfl rfl) h1
  obtain ⟨a2, len2, cap2, rfl⟩ := okWide_slice Try.underlying23 (hval 2 23 v2 rfl rfl)
  have k2 := h2
  have lt2 : ∀ x ∈ p2, x.block < W.heap.size := by obtain ⟨m, hm⟩ := k2; exact DataW.trod_lt m _ _ _ hm
  obtain ⟨YB, w2⟩ : ∃ YB, RIn W a2 len2 YB := by
    obtain ⟨fuel, hf⟩ := h2
    rcases open_ints Try.underlying23 Try.underlying3 (by kernel_rfl) hf with ⟨hcs, _⟩ | ⟨x, l, c, zs, hcs, _, hl, hm, hz, _, hcell, hwz⟩
    · simp [Value.cells] at hcs
      obtain ⟨rfl, rfl, rfl⟩ := hcs
      exact ⟨fun _ => 0, fun h => absurd h (Nat.lt_irrefl 0)⟩
    · simp [Value.cells] at hcs
      obtain ⟨rfl, rfl, rfl⟩ := hcs
      simp only [if_true] at hz
      exact ⟨_, rin_of (c := 0) (.inr ⟨x, rfl, by omega, hcell⟩)⟩
  clear hA0 hval0
  refine (law_walk a0 len0 cap0 A L C Y a1 a2 len2 cap2 YB W w0 w2).mono fun e W' ⟨he, hs⟩ => ?_
  have bel : Below W.heap.size W W' := ⟨hs.os, hs.tape, hs.output, hs.size, hs.block⟩
  subst he
  exact ⟨_, rfl, _, _, _, [], _, [], hW', trodAll_mk1 (shut_bool Try.underlying4 _), (trodAll_cons_mk (Below.trod laidOut (by kernel_rfl) (of_decide_eq_true (by kernel_rfl)) k0 bel lt0) (trodAll_cons_mk (shut_int Try.underlying3 w1) (trodAll_cons_mk (Below.trod laidOut (by kernel_rfl) (of_decide_eq_true (by kernel_rfl)) k2 bel lt2) trodAll_mk0))), rfl, bel.frame _, fun h => by cases h⟩

theorem over : Rows.fnShortestCycleIsAShortestWaitCycleRow.holds Try.pinned (OpenSpec.ofChange Rows.fnShortestCycleIsAShortestWaitCycleSpec) :=
  OpenClaim.holds_of_wide 3 Try.f3 rfl rfl rfl rfl rfl rfl rfl ⟨rfl, rfl, rfl, rfl, rfl⟩ rfl rfl rfl rfl rfl (by kernel_rfl) Try.func3 (by kernel_rfl)
    (of_decide_eq_true (by kernel_rfl)) (by unfold Func.isWrapper; first | (rw [if_pos (by decide +kernel)]; kernel_rfl) | (rw [if_neg (by decide +kernel)]; exact ⟨rfl, rfl⟩))
    (fun os started H enc _ => lifted os started H enc)

/-- ████ THE STATEMENT ████ -/
theorem proved : Rows.FnShortestCycleIsAShortestWaitCycleSaid := over
#print axioms proved
end Go.Proofs.Qxb6616799a.fnShortestCycleIsAShortestWaitCycle
