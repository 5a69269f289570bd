/-
  THE PROOF OF 'Rows.FnResponseOrdersByTheLowBitsSaid'. The frame (the row's step) is the shell that was given; the walk and the plain law are this seat's.
-/
import Derived.Test.Qxb6616789aRows
import Derived.WalkKit
import Derived.ProofKit
import Derived.OpenShut
import Derived.ShutString
import Derived.Laws.DeepBits32
import Derived.WalkLawsBesides
namespace Go.Proofs.Qxb6616789a.fnResponseOrdersByTheLowBits
open Go.ChangeShapes Go.WideShapes Go.ChangeAt Go.RowKit
open Go.ChangeMaps (open_string shut_string)
set_option linter.unusedVariables false      -- a walk need not use every 'w<i>' (that an integer argument fits its kind)

theorem own : ownKnob Try.prog.godebug = none := by kernel_rfl

/-! ### THE PLAIN LAW: no Go in sight -/
/-- What 'Response' answers: the low 31 bits, the top bit set. -/
def resp (a : Int) : Int := a % 2147483648 + 2147483648

theorem or_top (x : Nat) (hx : x < 4294967296) : x ||| 2147483648 = x % 2147483648 + 2147483648 := by
  apply Nat.eq_of_testBit_eq
  intro i
  rw [Nat.testBit_or, Nat.add_comm, show (2147483648 : Nat) = 2 ^ 31 from rfl]
  by_cases h31 : i < 31
  · rw [Nat.testBit_two_pow_add_gt h31, Nat.testBit_mod_two_pow, Nat.testBit_two_pow_of_ne (by omega)]
    simp [h31]
  · by_cases he : i = 31
    · subst he
      rw [Nat.testBit_two_pow_add_eq, Nat.testBit_mod_two_pow, Nat.testBit_two_pow_self]
      simp
    · have h1 : x.testBit i = false := Nat.testBit_lt_two_pow (Nat.lt_of_lt_of_le hx (by
        have : 2 ^ 32 ≤ 2 ^ i := Nat.pow_le_pow_right (by omega) (by omega)
        simpa using this))
      have h2 : (2 ^ 31 + x % 2 ^ 31).testBit i = false := Nat.testBit_lt_two_pow (by
        have h3 : 2 ^ 32 ≤ 2 ^ i := Nat.pow_le_pow_right (by omega) (by omega)
        have h4 : x % 2 ^ 31 < 2 ^ 31 := Nat.mod_lt _ (by decide)
        have h5 : (2 : Nat) ^ 32 = 4294967296 := by decide
        have h6 : (2 : Nat) ^ 31 = 2147483648 := by decide
        omega)
      rw [h1, h2, Nat.testBit_two_pow_of_ne (by omega)]
      rfl

theorem bits_top (a : Int) (h0 : 0 ≤ a) (h1 : a ≤ 4294967295) : bits .or .u32 a 2147483648 = resp a := by
  obtain ⟨x, rfl⟩ := Int.eq_ofNat_of_zero_le h0
  show IntKind.u32.wrap ((BitVec.ofInt 32 (x : Int) ||| BitVec.ofInt 32 2147483648).toNat : Int) = _
  have h2 : (BitVec.ofInt 32 2147483648).toNat = 2147483648 := by decide
  rw [BitVec.toNat_or, ofInt_u32 x (by omega), h2, or_top x (by omega)]
  have h3 : x % 2147483648 < 2147483648 := Nat.mod_lt _ (by decide)
  unfold resp
  simp [IntKind.wrap, IntKind.bits, IntKind.signed]
  omega

theorem resp_lo (a : Int) : 2147483648 ≤ resp a := by unfold resp; omega
theorem resp_ge (a : Int) (h1 : a ≤ 4294967295) : a ≤ resp a := by unfold resp; omega
theorem resp_eq (a b : Int) : (resp a == resp b) = (a % 2147483648 == b % 2147483648) := by
  rw [Bool.eq_iff_iff]
  simp only [beq_iff_eq]
  unfold resp
  omega
theorem resp_lt (a b : Int) : decide (resp a < resp b) = decide (a % 2147483648 < b % 2147483648) := by
  rw [Bool.eq_iff_iff]
  simp only [decide_eq_true_eq]
  unfold resp
  omega

/-! ### THE CALLEE -/
theorem response_any (a : Int) (h0 : 0 ≤ a) (h1 : a ≤ 4294967295) (w : World) :
    Calls Try.prog 7 #[.int .u32 a] w fun e w' => e = .returned (.int .u32 (resp a)) ∧ w' = w := by
  have hb := bits_top a h0 h1
  go_enter Try.func7, Try.ntmps7
  go_wp2
  go_ret
  exact ⟨rfl, rfl⟩

/-! ### STEP 1: THE WALK: the Go text returns true. 'Grown w w'': the world has at most new blocks (Derived/RowKit3.lean). Part the cases AHEAD of 'go_enter' where a test parts the walk; take each callee by a contract of your own. -/
theorem walk (a0 : Int) (a1 : Int) (w0 : (Lit.int .u32 a0).wf = true) (w1 : (Lit.int .u32 a1).wf = true) (w : World) :
    Calls Try.prog 6 #[.int .u32 a0, .int .u32 a1] w fun e w' => e = .returned (.bool true) ∧ Grown w w' := by
  have b0 := bounds_u32 w0
  have b1 := bounds_u32 w1
  obtain ⟨b00, b01⟩ := b0
  obtain ⟨b10, b11⟩ := b1
  have hlo := resp_lo a0
  have hge := resp_ge a0 b01
  have heq := resp_eq a0 a1
  have hlt := resp_lt a0 a1
  go_enter Try.func6, Try.ntmps6
  go_wp2_with (go_at_call 7; refine (response_any _ (by omega) (by omega) _).mono ?_; rintro e w' ⟨rfl, rfl⟩)
  go_ret
  exact ⟨rfl, Grown.refl _⟩

/-! ### THE ROW's STEP: WRITTEN OUT: LEAVE IT -/
set_option maxRecDepth 100000 in
theorem lifted (os : Os) (started : os.Started) (H : Type) (enc : TypeId × Value → H) :
    ReturnsInHanded {} Try.checked os 6 .any (Rows.fnResponseOrdersByTheLowBitsSpec.pre6 enc Try.prog Try.f6 Rows.fnResponseOrdersByTheLowBitsRow.domain false) (Rows.fnResponseOrdersByTheLowBitsSpec.post enc Try.prog Try.f6 false true false false) := by
  refine returnsInHanded_of_change (C := Try.checked) own started (by kernel_rfl) Try.func6
    (ChangeSpec.witness6 (enc := enc) (C := Try.checked) false ⟨#[], #[.int .u32 0, .int .u32 0], []⟩ 8 (by kernel_rfl) (by kernel_rfl) (by kernel_rfl) (by kernel_rfl)) ?_
  intro W base args ds gs before hval0 hW hcnd _
  have hval : ∀ (j : Nat) t v, Try.f6.params[j]? = some t → args[j]? = some v → Value.okWide Try.prog W .any base t v := hval0
  have hW' := hW
  obtain ⟨p, q, hA0, hV, rfl, hfz, hnd⟩ := hW
  have hA : DataW.TrodAll enc Try.prog W 0 (fun _ => true) true Try.f6.params.toList args.toList ds p := hA0
  rw [Try.params6] at hA hval
  obtain ⟨v0, vs0, d0, ds0, p0, q0, hargs, rfl, rfl, h0, r0⟩ := trodAll_cons hA
  obtain ⟨v1, vs1, d1, ds1, p1, q1, rfl, rfl, rfl, h1, r1⟩ := trodAll_cons r0
  obtain ⟨rfl, rfl, rfl⟩ := trodAll_nil r1
  obtain rfl : args = #[v0, v1] := by cases args; simp_all
  obtain ⟨rfl, rfl⟩ := trodVars_none hV
  obtain ⟨a0, rfl, rfl, rfl, w0⟩ := open_int Try.underlying22 (hval 0 22 v0 rfl rfl) h0
  obtain ⟨a1, rfl, rfl, rfl, w1⟩ := open_int Try.underlying22 (hval 1 22 v1 rfl rfl) h1
  clear hA0 hval0
  simp only [List.append_nil] at hW'
  refine (walk a0 a1 w0 w1 W).mono fun e W' ⟨he, hg⟩ => ?_
  subst he
  exact ⟨_, rfl, post_of_same (pa := []) (pv := []) hW' (fun _ _ _ => (trodAll_cons_mk (shut_bool Try.underlying4 _) trodAll_mk0)) (fun sp _ => (trodAll_cons_mk (shut_int Try.underlying22 w0) (trodAll_cons_mk (shut_int Try.underlying22 w1) trodAll_mk0))) (fun _ _ => rfl) rfl
    (hg.frame _) hg.2.1 (ok_one (by kernel_rfl) rfl (okWide_bool_mk Try.underlying4 _))⟩

theorem over : Rows.fnResponseOrdersByTheLowBitsRow.holds Try.pinned (OpenSpec.ofChange Rows.fnResponseOrdersByTheLowBitsSpec) :=
  OpenClaim.holds_of_wide 6 Try.f6 rfl rfl rfl rfl rfl rfl rfl ⟨rfl, rfl, rfl, rfl, rfl⟩ rfl rfl rfl rfl rfl (by kernel_rfl) Try.func6 (by kernel_rfl)
    (of_decide_eq_true (by kernel_rfl)) (by unfold Func.isWrapper; first | (rw [if_pos (by decide +kernel)]; kernel_rfl) | (rw [if_neg (by decide +kernel)]; exact ⟨rfl, rfl⟩))
    (fun os started H enc _ => lifted os started H enc)

/-- ████ THE STATEMENT ████ -/
theorem proved : Rows.FnResponseOrdersByTheLowBitsSaid :=
  over
#print axioms proved
end Go.Proofs.Qxb6616789a.fnResponseOrdersByTheLowBits
