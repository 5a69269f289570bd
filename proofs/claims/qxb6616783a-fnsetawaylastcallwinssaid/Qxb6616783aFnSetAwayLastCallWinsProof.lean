/-
  THE PROOF OF 'Rows.FnSetAwayLastCallWinsSaid'. The frame (the row's step) is the shell that was given; the walks, the law of the two atomic operations and the plain law are this seat's.
-/
import Derived.Test.Qxb6616783aRows
import Derived.WalkKit
import Derived.ProofKit
import Derived.OpenShut
import Derived.ShutString
import Derived.WalkLawsBesides
namespace Go.Proofs.Qxb6616783a.fnSetAwayLastCallWins
open Go.ChangeShapes Go.WideShapes Go.ChangeAt Go.RowKit
open Go.ChangeMaps (open_string shut_string)
set_option linter.unusedVariables false      -- a walk need not use every 'w<i>' (that an integer argument fits its kind)

theorem own : ownKnob Try.prog.godebug = none := by kernel_rfl

/-! ### THE PLAIN LAW: no Go in sight -/
/-- The status with the away flag set to 'on'. -/
def setA (x : Int) (on : Bool) : Int := if on then x - x % 2 + 1 else x - x % 2

theorem setA_range (x : Int) (on : Bool) (h0 : 0 ≤ x) (h3 : x ≤ 3) : 0 ≤ setA x on ∧ setA x on ≤ 3 := by
  unfold setA; split <;> omega
theorem setA_twice (x : Int) (a b : Bool) : setA (setA x a) b = setA x b := by
  unfold setA; cases a <;> cases b <;> simp <;> omega

/-! ### sync/atomic.OrUint32, AndUint32 in the run of one goroutine -/
theorem run_call_bits {P : Program} {f : FuncId} {fn : Func} (hf : P.funcs[f]? = some fn) (hname : (fn.name == "runtime.NumGoroutine") = false) (hb : fn.body.isNone = true) (hn : Extern.findNext fn = none) (op : BinOp) (k : IntKind)
    (he : Extern.find fn = some (Extern.Atomic.update (Op.intBits op) k false)) {a : Addr} {x y s : Int} {w : World} (hc : w.cell? a = some (.int k x)) (hz : w.frozen? a = false)
    (hs : (Op.intBits op k x y).run P w = .ok (.int k s) w) :
    (callFunc f #[.pointer (some a), .int k y]).run P w = .ok (.value (.int k x)) (w.setCell a (.int k s)) := by
  rw [run_callFunc_extern hf hname hb hn he]
  change (Sem.run P (do
    let a' ← asAddr (.pointer (some a))
    let old ← Extern.Atomic.read (.int k) a'
    let new ← Op.intBits op k (← asInt old) (← asInt (.int k y))
    store a' new .atomic
    pure (if false = true then new else old)) w).andThen _ = _
  simp [Extern.Atomic.read, asAddr, asInt, asIntOf, hc, hz, hs, run_store P w a (.int k s) .atomic rfl, Result.andThen]

theorem small4 {x : Int} (h0 : 0 ≤ x) (h3 : x ≤ 3) : x = 0 ∨ x = 1 ∨ x = 2 ∨ x = 3 := by omega
theorem or_one (P : Program) (x : Int) (h0 : 0 ≤ x) (h3 : x ≤ 3) (w : World) : (Op.intBits .or .u32 x 1).run P w = .ok (.int .u32 (setA x true)) w := by
  rcases small4 h0 h3 with rfl | rfl | rfl | rfl <;> rfl
theorem and_not_one (P : Program) (x : Int) (h0 : 0 ≤ x) (h3 : x ≤ 3) (w : World) : (Op.intBits .and .u32 x 4294967294).run P w = .ok (.int .u32 (setA x false)) w := by
  rcases small4 h0 h3 with rfl | rfl | rfl | rfl <;> rfl

theorem not_one : bits .xor .u32 IntKind.u32.max 1 = 4294967294 := by rfl

/-! ### THE CALLEES -/
theorem setStatus_any (b : Nat) (x : Int) (on : Bool) (h0 : 0 ≤ x) (h3 : x ≤ 3) (w : World) (hc : w.cell? ⟨b, 8, none⟩ = some (.int .u32 x)) (hz : w.frozen? ⟨b, 8, none⟩ = false) :
    Calls Try.prog 18 #[.pointer (some ⟨b, 0, none⟩), .int .u32 1, .bool on] w fun e w' => e = .returned (.tuple #[]) ∧ w' = w.setCell ⟨b, 8, none⟩ (.int .u32 (setA x on)) := by
  have hor := run_call_bits (P := Try.prog) Try.func19 (by kernel_rfl) (by kernel_rfl) (by kernel_rfl) .or .u32 (by kernel_rfl) (y := 1) hc hz (or_one _ x h0 h3 w)
  have hand := run_call_bits (P := Try.prog) Try.func20 (by kernel_rfl) (by kernel_rfl) (by kernel_rfl) .and .u32 (by kernel_rfl) (y := 4294967294) hc hz (and_not_one _ x h0 h3 w)
  rw [← not_one] at hand
  cases on
  · go_enter Try.func18, Try.ntmps18
    go_wp2
    go_end0
    exact ⟨rfl, rfl⟩
  · go_enter Try.func18, Try.ntmps18
    go_wp2
    go_end0
    exact ⟨rfl, rfl⟩

theorem setAway_any (b : Nat) (x : Int) (on : Bool) (h0 : 0 ≤ x) (h3 : x ≤ 3) (w : World) (hc : w.cell? ⟨b, 8, none⟩ = some (.int .u32 x)) (hz : w.frozen? ⟨b, 8, none⟩ = false) :
    Calls Try.prog 17 #[.pointer (some ⟨b, 0, none⟩), .bool on] w fun e w' => e = .returned (.tuple #[]) ∧ w' = w.setCell ⟨b, 8, none⟩ (.int .u32 (setA x on)) := by
  go_enter Try.func17, Try.ntmps17
  go_wp2_with (go_at_call 18; refine (setStatus_any _ _ _ h0 h3 _ hc hz).mono ?_; rintro e w' ⟨rfl, rfl⟩)
  go_end0
  exact ⟨rfl, rfl⟩

theorem zzSetAway_any (b : Nat) (x : Int) (on : Bool) (h0 : 0 ≤ x) (h3 : x ≤ 3) (w : World) (hc : w.cell? ⟨b, 8, none⟩ = some (.int .u32 x)) (hz : w.frozen? ⟨b, 8, none⟩ = false) :
    Calls Try.prog 11 #[.pointer (some ⟨b, 0, none⟩), .bool on] w fun e w' => e = .returned (.tuple #[]) ∧ w' = w.setCell ⟨b, 8, none⟩ (.int .u32 (setA x on)) := by
  go_enter Try.func11, Try.ntmps11
  go_wp2_with (go_at_call 17; refine (setAway_any _ _ _ h0 h3 _ hc hz).mono ?_; rintro e w' ⟨rfl, rfl⟩)
  go_end0
  exact ⟨rfl, rfl⟩

theorem status_any (b : Nat) (x : Int) (w : World) (hc : w.cell? ⟨b, 8, none⟩ = some (.int .u32 x)) :
    Calls Try.prog 12 #[.pointer (some ⟨b, 0, none⟩)] w fun e w' => e = .returned (.int .u32 x) ∧ w' = w := by
  go_enter Try.func12, Try.ntmps12
  go_wp2
  go_ret
  exact ⟨rfl, rfl⟩

/-- The cells of a new owner: all zero but the status. -/
def ownerCells (s : Int) : Array Value := #[.int .u64 0, .pointer none, .int .i64 0, .nilIface, .bool false, .bool false, .bool false, .bool false, .int .u32 s, .pointer none]

theorem newOwner_any (s : Int) (w : World) :
    Calls Try.prog 10 #[.int .u32 s] w fun e w' => e = .returned (.pointer (some ⟨w.heap.size, 0, none⟩)) ∧ w' = w.alloc (.cells (ownerCells s) 41) := by
  go_enter Try.func10, Try.ntmps10
  go_wp2
  go_ret
  exact ⟨rfl, rfl⟩

theorem owner_cell (w : World) (s : Int) : (w.alloc (.cells (ownerCells s) 41)).cell? ⟨w.heap.size, 8, none⟩ = some (.int .u32 s) := by
  simp [ownerCells]
theorem owner_free (w : World) (s : Int) : (w.alloc (.cells (ownerCells s) 41)).frozen? ⟨w.heap.size, 8, none⟩ = false := by
  simp
theorem owner_set (w : World) (s t : Int) : (w.alloc (.cells (ownerCells s) 41)).setCell ⟨w.heap.size, 8, none⟩ (.int .u32 t) = w.alloc (.cells (ownerCells t) 41) := by
  rw [World.setCell_alloc_at _ _ _ _ _ rfl]; rfl

theorem bits_andNot (x : Int) (h0 : 0 ≤ x) (h3 : x ≤ 3) : bits .andNot .u32 x 1 = setA x false := by
  rcases small4 h0 h3 with rfl | rfl | rfl | rfl <;> rfl
theorem bits_or (x : Int) (h0 : 0 ≤ x) (h3 : x ≤ 3) : bits .or .u32 (setA x false) 1 = setA x true := by
  rcases small4 h0 h3 with rfl | rfl | rfl | rfl <;> rfl

/-! ### STEP 1: THE WALK: the Go text returns true. 'Grown w w'': the world has at most new blocks (Derived/RowKit3.lean). Part the cases AHEAD of 'go_enter' where a test parts the walk; take each callee by a contract of your own. -/
theorem walk (a0 : Int) (a1 : Bool) (a2 : Bool) (w0 : (Lit.int .u32 a0).wf = true) (w : World) :
    Calls Try.prog 5 #[.int .u32 a0, .bool a1, .bool a2] w fun e w' => e = .returned (.bool true) ∧ Grown w w' := by
  obtain ⟨b0, b1⟩ := bounds_u32 w0
  by_cases hs : 3 < a0
  · go_enter Try.func5, Try.ntmps5
    go_wp2
    go_ret
    exact ⟨rfl, Grown.refl _⟩
  · have h3 : a0 ≤ 3 := by omega
    have r1 := setA_range a0 a1 b0 h3
    have r2 := setA_range (setA a0 a1) a2 r1.1 r1.2
    go_enter Try.func5, Try.ntmps5
    go_wp2_with fail
    refine (newOwner_any _ _).mono ?_
    rintro e w1 ⟨rfl, rfl⟩
    go_wp2_with fail
    refine (zzSetAway_any _ _ _ b0 h3 _ (owner_cell w a0) (owner_free w a0)).mono ?_
    rintro e w1 ⟨rfl, rfl⟩
    rw [owner_set]
    go_wp2_with fail
    refine (zzSetAway_any _ _ _ r1.1 r1.2 _ (owner_cell w _) (owner_free w _)).mono ?_
    rintro e w1 ⟨rfl, rfl⟩
    rw [owner_set]
    go_wp2_with fail
    refine (status_any _ _ _ (owner_cell w _)).mono ?_
    rintro e w1 ⟨rfl, hw1⟩
    have hg : Grown w w1 := by rw [hw1]; exact (Grown.refl _).alloc _ _
    clear hw1
    go_wp2_with fail
    refine (newOwner_any _ _).mono ?_
    rintro e w2 ⟨rfl, rfl⟩
    go_wp2_with fail
    refine (zzSetAway_any _ _ _ b0 h3 _ (owner_cell w1 a0) (owner_free w1 a0)).mono ?_
    rintro e w2 ⟨rfl, rfl⟩
    rw [owner_set]
    go_wp2_with fail
    refine (status_any _ _ _ (owner_cell w1 _)).mono ?_
    rintro e w2 ⟨rfl, hw2⟩
    have hg2 : Grown w w2 := by rw [hw2]; exact hg.alloc _ _
    clear hw2
    rw [setA_twice]
    have hN := bits_andNot a0 b0 h3
    have hO := bits_or a0 b0 h3
    cases a2
    · go_wp2
      go_ret
      exact ⟨rfl, hg2⟩
    · go_wp2
      go_ret
      exact ⟨rfl, hg2⟩

/-! ### THE ROW's STEP: WRITTEN OUT: LEAVE IT -/
set_option maxRecDepth 100000 in
theorem lifted (os : Os) (started : os.Started) (H : Type) (enc : TypeId × Value → H) :
    ReturnsInHanded {} Try.checked os 5 .any (Rows.fnSetAwayLastCallWinsSpec.pre6 enc Try.prog Try.f5 Rows.fnSetAwayLastCallWinsRow.domain false) (Rows.fnSetAwayLastCallWinsSpec.post enc Try.prog Try.f5 false true false false) := by
  refine returnsInHanded_of_change (C := Try.checked) own started (by kernel_rfl) Try.func5
    (ChangeSpec.witness6 (enc := enc) (C := Try.checked) false ⟨#[], #[.int .u32 0, .bool false, .bool false], []⟩ 8 (by kernel_rfl) (by kernel_rfl) (by kernel_rfl) (by kernel_rfl)) ?_
  intro W base args ds gs before hval0 hW hcnd _
  have hval : ∀ (j : Nat) t v, Try.f5.params[j]? = some t → args[j]? = some v → Value.okWide Try.prog W .any base t v := hval0
  have hW' := hW
  obtain ⟨p, q, hA0, hV, rfl, hfz, hnd⟩ := hW
  have hA : DataW.TrodAll enc Try.prog W 0 (fun _ => true) true Try.f5.params.toList args.toList ds p := hA0
  rw [Try.params5] at hA hval
  obtain ⟨v0, vs0, d0, ds0, p0, q0, hargs, rfl, rfl, h0, r0⟩ := trodAll_cons hA
  obtain ⟨v1, vs1, d1, ds1, p1, q1, rfl, rfl, rfl, h1, r1⟩ := trodAll_cons r0
  obtain ⟨v2, vs2, d2, ds2, p2, q2, rfl, rfl, rfl, h2, r2⟩ := trodAll_cons r1
  obtain ⟨rfl, rfl, rfl⟩ := trodAll_nil r2
  obtain rfl : args = #[v0, v1, v2] := by cases args; simp_all
  obtain ⟨rfl, rfl⟩ := trodVars_none hV
  obtain ⟨a0, rfl, rfl, rfl, w0⟩ := open_int Try.underlying26 (hval 0 26 v0 rfl rfl) h0
  obtain ⟨a1, rfl, rfl, rfl⟩ := open_bool Try.underlying4 (hval 1 4 v1 rfl rfl) h1
  obtain ⟨a2, rfl, rfl, rfl⟩ := open_bool Try.underlying4 (hval 2 4 v2 rfl rfl) h2
  clear hA0 hval0
  simp only [List.append_nil] at hW'
  refine (walk a0 a1 a2 w0 W).mono fun e W' ⟨he, hg⟩ => ?_
  subst he
  exact ⟨_, rfl, post_of_same (pa := []) (pv := []) hW' (fun _ _ _ => (trodAll_cons_mk (shut_bool Try.underlying4 _) trodAll_mk0)) (fun sp _ => (trodAll_cons_mk (shut_int Try.underlying26 w0) (trodAll_cons_mk (shut_bool Try.underlying4 _) (trodAll_cons_mk (shut_bool Try.underlying4 _) trodAll_mk0)))) (fun _ _ => rfl) rfl
    (hg.frame _) hg.2.1 (ok_one (by kernel_rfl) rfl (okWide_bool_mk Try.underlying4 _))⟩

theorem over : Rows.fnSetAwayLastCallWinsRow.holds Try.pinned (OpenSpec.ofChange Rows.fnSetAwayLastCallWinsSpec) :=
  OpenClaim.holds_of_wide 5 Try.f5 rfl rfl rfl rfl rfl rfl rfl ⟨rfl, rfl, rfl, rfl, rfl⟩ rfl rfl rfl rfl rfl (by kernel_rfl) Try.func5 (by kernel_rfl)
    (of_decide_eq_true (by kernel_rfl)) (by unfold Func.isWrapper; first | (rw [if_pos (by decide +kernel)]; kernel_rfl) | (rw [if_neg (by decide +kernel)]; exact ⟨rfl, rfl⟩))
    (fun os started H enc _ => lifted os started H enc)

/-- ████ THE STATEMENT ████ -/
theorem proved : Rows.FnSetAwayLastCallWinsSaid :=
  over
#print axioms proved
end Go.Proofs.Qxb6616783a.fnSetAwayLastCallWins
