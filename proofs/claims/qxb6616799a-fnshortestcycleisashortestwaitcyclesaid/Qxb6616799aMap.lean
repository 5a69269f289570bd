/-
  A MAP KEYED BY POINTERS TO TRANSACTIONS, which the call itself made (seat b6616799a): the kit has no law for such keys.
-/
import Derived.Test.Qxb6616799aTxn
import Derived.LaidEqlPtr
import Derived.Maps.Own
namespace Go.Proofs.Qxb6616799a
open Go.RowKit Plain
open Go.ChangeMaps (setBlock heap_setBlock_same heap_setBlock_other)

/-- The pointer to transaction x, whose block is T x; nil. -/
abbrev tp (T : Nat → Nat) (x : Nat) : Value := .pointer (some ⟨T x, 0, none⟩)
def po (T : Nat → Nat) : Option Nat → Value
  | none => .pointer none
  | some y => tp T y

/-- The n transactions lie in memory. -/
structure Txns (w : World) (T : Nat → Nat) (n : Nat) : Prop where
  blk : ∀ x, x < n → w.heap[T x]? = some (.cells (txnCells x) 92 (0, 0))
  inj : ∀ x y, x < n → y < n → T x = T y → x = y

theorem Txns.lt {w : World} {T : Nat → Nat} {n : Nat} (h : Txns w T n) {x : Nat} (hx : x < n) : T x < w.heap.size := (Array.getElem?_eq_some_iff.1 (h.blk x hx)).1
theorem Txns.since {w wr : World} {T : Nat → Nat} {n B : Nat} (h : Txns w T n) (hB : w.heap.size ≤ B) (hs : w.Since B wr) : Txns wr T n :=
  ⟨fun x hx => by rw [hs.block _ (Nat.lt_of_lt_of_le (h.lt hx) hB)]; exact h.blk x hx, h.inj⟩
theorem Txns.alloc {w : World} {T : Nat → Nat} {n : Nat} (h : Txns w T n) (o : Obj) : Txns (w.alloc o) T n :=
  ⟨fun x hx => by rw [Deep.blk_alloc_lt _ _ _ (h.lt hx)]; exact h.blk x hx, h.inj⟩

theorem tp_inj {w : World} {T : Nat → Nat} {n x y : Nat} (h : Txns w T n) (hx : x < n) (hy : y < n) (e : tp T x = tp T y) : x = y := by
  simp only [tp, Value.pointer.injEq, Option.some.injEq, Addr.mk.injEq, and_true] at e
  exact h.inj x y hx hy e

theorem Try.info92s : (Try.prog.info? 92).map (fun i => decide (i.size = 0)) = some false := by kernel_rfl

section
variable {w : World} {T : Nat → Nat} {n x y : Nat}

theorem run_equal_tp (h : Txns w T n) (hx : x < n) (hy : y < n) : (Op.equal 36 (tp T x) (tp T y)).run Try.prog w = .ok (decide (x = y)) w := by
  obtain ⟨j, hj, hsz0⟩ := Option.map_eq_some_iff.1 Try.info92s
  have hsz : j.size ≠ 0 := by simpa using hsz0
  have key : ∀ d : Nat, (Op.equalIn (d + 1) 36 (tp T x) (tp T y)).run Try.prog w = .ok (decide (x = y)) w := by
    intro d
    by_cases e : x = y
    · subst e
      simp [Op.equalIn, run_underlying Try.underlying36, sizeOf, typeInfo, hj, run_sameAddr_same]
    · have hne : (⟨T x, 0, none⟩ : Addr) ≠ ⟨T y, 0, none⟩ := fun e' => e (h.inj x y hx hy (by simpa using e'))
      have hs := run_sameAddr_other (P := Try.prog) w hne (h.blk x hx) (h.blk y hy)
      simp [Op.equalIn, run_underlying Try.underlying36, sizeOf, typeInfo, hj, hsz, hs, e]
  simp only [Op.equal, Op.maxDepth]
  exact key 9999

theorem run_eql_tp (h : Txns w T n) (hx : x < n) (hy : y < n) : (binOp .eql 36 (tp T x) (tp T y)).run Try.prog w = .ok (.bool (decide (x = y))) w := by
  simp [binOp, run_equal_tp h hx hy]

/-- The look through the entries. -/
theorem run_findAsking (h : Txns w T n) (hx : x < n) : ∀ (es : List MapEntry) (i : Nat), (∀ e ∈ es, ∃ y, y < n ∧ e.key = tp T y) →
    ((Instr.findAsking 36 (tp T x) es i).run Try.prog w = .ok none w ∧ ∀ e ∈ es, e.key ≠ tp T x) ∨
    ∃ j e, (Instr.findAsking 36 (tp T x) es i).run Try.prog w = .ok (some (j, e.val)) w ∧ e ∈ es ∧ e.key = tp T x
  | [], i, _ => .inl ⟨by simp [Instr.findAsking], by simp⟩
  | e :: es, i, hk => by
    obtain ⟨y, hy, hey⟩ := hk e (by simp)
    have heq := run_equal_tp h hx hy
    by_cases hxy : x = y
    · subst hxy
      refine .inr ⟨i, e, ?_, by simp, hey⟩
      simp only [Instr.findAsking, hey]
      simp [heq]
    · have hrun : (Instr.findAsking 36 (tp T x) (e :: es) i).run Try.prog w = (Instr.findAsking 36 (tp T x) es (i + 1)).run Try.prog w := by
        simp only [Instr.findAsking, hey]
        simp [heq, hxy]
      rcases run_findAsking h hx es (i + 1) (fun e' he' => hk e' (by simp [he'])) with ⟨h1, h2⟩ | ⟨j, e', h1, h2, h3⟩
      · refine .inl ⟨by rw [hrun]; exact h1, fun e' he' => ?_⟩
        rcases List.mem_cons.1 he' with rfl | he'
        · rw [hey]
          exact fun e => hxy (tp_inj h hx hy e.symm)
        · exact h2 e' he'
      · exact .inr ⟨j, e', by rw [hrun]; exact h1, by simp [h2], h3⟩

theorem run_findKey_tp (h : Txns w T n) (hx : x < n) (es : List MapEntry) (hk : ∀ e ∈ es, ∃ y, y < n ∧ e.key = tp T y) :
    ((Instr.findKey 36 (tp T x) es).run Try.prog w = .ok none w ∧ ∀ e ∈ es, e.key ≠ tp T x) ∨
    ∃ j e, (Instr.findKey 36 (tp T x) es).run Try.prog w = .ok (some (j, e.val)) w ∧ e ∈ es ∧ e.key = tp T x := by
  cases es with
  | nil => exact .inl ⟨by simp [Instr.findKey, run_underlying Try.underlying36, Instr.findNow], by simp⟩
  | cons e es =>
    have hr : (Instr.findKey 36 (tp T x) (e :: es)).run Try.prog w = (Instr.findAsking 36 (tp T x) (e :: es) 0).run Try.prog w := by
      simp [Instr.findKey, run_underlying Try.underlying36, Instr.findNow, Instr.sameNow]
    rw [hr]
    exact run_findAsking h hx (e :: es) 0 hk

/-- BLOCK M IS THE MAP fr. -/
def MapIs (w : World) (M : Nat) (T : Nat → Nat) (n : Nat) (fr : Nat → Option (Option Nat)) : Prop :=
  ∃ es clock, w.heap[M]? = some (.map es clock) ∧ (∀ e ∈ es.toList, ∃ x p, x < n ∧ e.key = tp T x ∧ fr x = some p ∧ e.val = po T p) ∧
    ∀ x p, x < n → fr x = some p → ∃ e ∈ es.toList, e.key = tp T x

theorem MapIs.lt {M : Nat} {fr : Nat → Option (Option Nat)} (h : MapIs w M T n fr) : M < w.heap.size := by
  obtain ⟨es, clock, hb, _⟩ := h
  exact (Array.getElem?_eq_some_iff.1 hb).1
theorem MapIs.block {w' : World} {M : Nat} {fr : Nat → Option (Option Nat)} (h : MapIs w M T n fr) (e : w'.heap[M]? = w.heap[M]?) : MapIs w' M T n fr := by
  obtain ⟨es, clock, hb, r⟩ := h
  exact ⟨es, clock, e.trans hb, r⟩
theorem MapIs.made (w : World) (T : Nat → Nat) (n : Nat) : MapIs (w.alloc (.map #[] 0)) w.heap.size T n (fun _ => none) :=
  ⟨#[], 0, Deep.blk_alloc_new _ _, by simp, fun x p _ h => by cases h⟩

theorem run_checkKey_tp (em : Bool) (x : Nat) : (Instr.checkKey em 10000 36 (tp T x)).run Try.prog w = .ok () w := by
  have key : ∀ d : Nat, (Instr.checkKey em (d + 1) 36 (tp T x)).run Try.prog w = .ok () w := fun d => by
    simp [Instr.checkKey, run_underlying Try.underlying36]
  exact key 9999

theorem MapIs.look_some {M : Nat} {fr : Nat → Option (Option Nat)} (h : MapIs w M T n fr) (ht : Txns w T n) (hx : x < n) {p : Option Nat} (hp : fr x = some p) (ok : Bool) :
    (Instr.lookup 93 (.map (some M)) (tp T x) ok).run Try.prog w = .ok (if ok then .tuple #[po T p, .bool true] else po T p) w := by
  obtain ⟨es, clock, hb, h1, h2⟩ := h
  obtain ⟨e0, he0, hk0⟩ := h2 x p hx hp
  rcases run_findKey_tp ht hx es.toList (fun e he => by obtain ⟨y, _, hy, hk, _⟩ := h1 e he; exact ⟨y, hy, hk⟩) with ⟨_, h4⟩ | ⟨j, e, h3, h4, h5⟩
  · exact absurd hk0 (h4 e0 he0)
  · obtain ⟨y, q, hy, hk, hq, hval⟩ := h1 e h4
    have hxy : x = y := tp_inj ht hx hy (h5.symm.trans hk)
    subst hxy
    rw [hp] at hq
    cases hq
    simp [Instr.lookup, run_underlying Try.underlying93, MapKept.run_getObj_map hb, run_checkKey_tp, h3, hval]

theorem MapIs.look_none {M : Nat} {fr : Nat → Option (Option Nat)} (h : MapIs w M T n fr) (ht : Txns w T n) (hx : x < n) (hp : fr x = none) :
    (Instr.lookup 93 (.map (some M)) (tp T x) true).run Try.prog w = .ok (.tuple #[.pointer none, .bool false]) w := by
  obtain ⟨es, clock, hb, h1, h2⟩ := h
  rcases run_findKey_tp ht hx es.toList (fun e he => by obtain ⟨y, _, hy, hk, _⟩ := h1 e he; exact ⟨y, hy, hk⟩) with ⟨h3, _⟩ | ⟨j, e, h3, h4, h5⟩
  · simp [Instr.lookup, run_underlying Try.underlying93, MapKept.run_getObj_map hb, run_checkKey_tp, h3]
  · obtain ⟨y, q, hy, hk, hq, hval⟩ := h1 e h4
    have hxy : x = y := tp_inj ht hx hy (h5.symm.trans hk)
    subst hxy
    rw [hp] at hq
    cases hq

/-- The map with one entry more. -/
def setF (fr : Nat → Option (Option Nat)) (x : Nat) (p : Option Nat) : Nat → Option (Option Nat) := fun y => if y = x then some p else fr y
theorem setF_same (fr : Nat → Option (Option Nat)) (x : Nat) (p : Option Nat) : setF fr x p x = some p := if_pos rfl
theorem setF_other {fr : Nat → Option (Option Nat)} {x y : Nat} {p : Option Nat} (h : y ≠ x) : setF fr x p y = fr y := if_neg h
theorem setF_put (fr : Nat → Option (Option Nat)) (v u : Nat) : setF fr v (some u) = putF fr v u := rfl
theorem setF_root (tx : Nat) : setF (fun _ => none) tx none = fr0 tx := rfl
/-- A new entry. -/
theorem MapIs.update {M : Nat} {fr : Nat → Option (Option Nat)} (h : MapIs w M T n fr) (ht : Txns w T n) (hx : x < n) (hp : fr x = none) (p : Option Nat) :
    ∃ w', (Instr.mapUpdate 93 (.map (some M)) (tp T x) (po T p)).run Try.prog w = .ok () w' ∧ MapIs w' M T n (setF fr x p) ∧ w.grownBy w' (some M) := by
  obtain ⟨es, clock, hb, h1, h2⟩ := h
  rcases run_findKey_tp ht hx es.toList (fun e he => by obtain ⟨y, _, hy, hk, _⟩ := h1 e he; exact ⟨y, hy, hk⟩) with ⟨h3, h4⟩ | ⟨j, e, h3, h4, h5⟩
  · refine ⟨setBlock w M (.map (es.push ⟨tp T x, po T p, clock⟩) (clock + 1)), ?_, ⟨_, _, heap_setBlock_same hb _, ?_, ?_⟩, ⟨rfl, rfl, rfl, by simp [setBlock], fun i _ hi => heap_setBlock_other hb _ (fun e => hi (by rw [e]))⟩⟩
    · simp [Instr.mapUpdate, run_underlying Try.underlying93, MapKept.run_getObj_map hb, run_checkKey_tp, h3, MapKept.run_setObj_map _ hb, Result.andThen, setBlock]
    · intro e he
      simp only [Array.toList_push, List.mem_append, List.mem_singleton] at he
      rcases he with he | rfl
      · obtain ⟨y, q, hy, hk, hq, hval⟩ := h1 e he
        refine ⟨y, q, hy, hk, ?_, hval⟩
        have hne : y ≠ x := fun e' => by rw [e', hp] at hq; cases hq
        rw [setF_other hne]
        exact hq
      · exact ⟨x, p, hx, rfl, setF_same _ _ _, rfl⟩
    · intro y q hy hq
      by_cases e : y = x
      · exact ⟨⟨tp T x, po T p, clock⟩, by simp, by rw [e]⟩
      · rw [setF_other e] at hq
        obtain ⟨e', he', hk'⟩ := h2 y q hy hq
        exact ⟨e', by simp [he'], hk'⟩
  · obtain ⟨y, q, hy, hk, hq, hval⟩ := h1 e h4
    have hxy : x = y := tp_inj ht hx hy (h5.symm.trans hk)
    subst hxy
    rw [hp] at hq
    cases hq
end

end Go.Proofs.Qxb6616799a
