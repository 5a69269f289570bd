/-
  A SLICE OF THE CALL's OWN, AT WHATEVER OFFSET ('next = next[1:]'), appended to one element at a time (seat b6616799a).
-/
import Derived.Test.Qxb6616799aMem
import Derived.Deep.AppendSrc
namespace Go.Proofs.Qxb6616799a
open Go.RowKit

/-- THE SLICE v, of elements of one cell of type e, HOLDS xs: it is nil, or it lies in a block from lo on, which has room for its capacity. -/
def Has (w : World) (lo : Nat) (e : TypeId) (v : Value) (xs : List Value) : Prop :=
  (v = .slice none 0 0 ∧ xs = []) ∨
  ∃ g off cap cur, v = .slice (some ⟨g, off, none⟩) xs.length cap ∧ lo ≤ g ∧ w.heap[g]? = some (.cells cur e (0, 0)) ∧ xs.length ≤ cap ∧ off + cap ≤ cur.size ∧
    ∀ i x, xs[i]? = some x → cur[off + i]? = some x

theorem Has.nil (w : World) (lo : Nat) (e : TypeId) : Has w lo e (.slice none 0 0) [] := .inl ⟨rfl, rfl⟩

section
variable {w w' : World} {lo : Nat} {e : TypeId} {v : Value} {xs : List Value}

theorem Has.own (h : Has w lo e v xs) {k : Nat} (hk : v.ownBlock = some k) : lo ≤ k ∧ k < w.heap.size := by
  rcases h with ⟨rfl, _⟩ | ⟨g, off, cap, cur, rfl, hg, hh, _⟩
  · simp [Value.ownBlock] at hk
  · simp [Value.ownBlock] at hk
    subst hk
    exact ⟨hg, (Array.getElem?_eq_some_iff.1 hh).1⟩

/-- What is held stays held while other blocks turn. -/
theorem Has.kept {row : Option Nat} (h : Has w lo e v xs) (hg : w.grownBy w' row) (hne : ∀ k, v.ownBlock = some k → row ≠ some k) : Has w' lo e v xs := by
  rcases h with h | ⟨g, off, cap, cur, rfl, hl, hh, r⟩
  · exact .inl h
  · refine .inr ⟨g, off, cap, cur, rfl, hl, ?_, r⟩
    rw [hg.block g (Array.getElem?_eq_some_iff.1 hh).1 (fun e => hne g (by simp [Value.ownBlock]) e.symm)]
    exact hh

theorem Has.block (h : Has w lo e v xs) (hg : ∀ k, v.ownBlock = some k → w'.heap[k]? = w.heap[k]?) : Has w' lo e v xs := by
  rcases h with h | ⟨g, off, cap, cur, rfl, hl, hh, r⟩
  · exact .inl h
  · exact .inr ⟨g, off, cap, cur, rfl, hl, by rw [hg g (by simp [Value.ownBlock])]; exact hh, r⟩
theorem Has.alloc (h : Has w lo e v xs) (o : Obj) : Has (w.alloc o) lo e v xs := h.block (fun _ hk => Deep.blk_alloc_lt _ _ _ (h.own hk).2)
theorem Has.drewN (h : Has w lo e v xs) (q : Nat) : Has (w.drewN q) lo e v xs := h

/-- Its i-th element. -/
theorem Has.elem (h : Has w lo e v xs) (h0 : 0 < xs.length) : ∃ g off cap, v = .slice (some ⟨g, off, none⟩) xs.length cap ∧ xs.length ≤ cap ∧ ∀ i x, xs[i]? = some x → w.cell? ⟨g, off + i, none⟩ = some x := by
  rcases h with ⟨_, rfl⟩ | ⟨g, off, cap, cur, rfl, hl, hh, h1, h2, h3⟩
  · simp at h0
  · refine ⟨g, off, cap, rfl, h1, fun i x hx => ?_⟩
    simp [World.cell?, hh, h3 i x hx]

/-- Whatever it holds: its shape. -/
theorem Has.shape (h : Has w lo e v xs) : ∃ a cap, v = .slice a xs.length cap ∧ xs.length ≤ cap := by
  rcases h with ⟨rfl, rfl⟩ | ⟨g, off, cap, cur, rfl, hl, hh, h1, h2, h3⟩
  · exact ⟨none, 0, rfl, Nat.le_refl _⟩
  · exact ⟨_, cap, rfl, h1⟩

/-- 'v[:0]'. -/
theorem Has.cutAll {a : Option Addr} {n cap : Nat} (h : Has w lo e (.slice a n cap) xs) : Has w lo e (.slice a 0 cap) [] := by
  rcases h with ⟨hv, _⟩ | ⟨g, off, cap', cur, hv, hl, hh, h1, h2, h3⟩
  · simp only [Value.slice.injEq] at hv
    obtain ⟨rfl, rfl, rfl⟩ := hv
    exact .inl ⟨rfl, rfl⟩
  · simp only [Value.slice.injEq] at hv
    obtain ⟨rfl, rfl, rfl⟩ := hv
    exact .inr ⟨g, off, cap, cur, rfl, hl, hh, Nat.zero_le _, h2, fun i x hx => by simp at hx⟩

/-- 'v[1:]'. -/
theorem Has.cutOne {x : Value} {g off n cap : Nat} (h : Has w lo e (.slice (some ⟨g, off, none⟩) n cap) (x :: xs)) :
    Has w lo e (.slice (if cap = 1 then some ⟨g, off, none⟩ else some ⟨g, off + 1, none⟩) (n - 1) (cap - 1)) xs := by
  rcases h with ⟨hv, _⟩ | ⟨g', off', cap', cur, hv, hl, hh, h1, h2, h3⟩
  · cases hv
  · simp only [Value.slice.injEq, Option.some.injEq, Addr.mk.injEq] at hv
    obtain ⟨⟨rfl, rfl, _⟩, rfl, rfl⟩ := hv
    simp only [List.length_cons] at h1 ⊢
    by_cases hc : cap = 1
    · rw [if_pos hc]
      have hx0 : xs = [] := List.eq_nil_of_length_eq_zero (by omega)
      subst hx0
      exact .inr ⟨g, off, cap - 1, cur, rfl, hl, hh, by simp, by omega, fun i y hy => by simp at hy⟩
    · rw [if_neg hc]
      refine .inr ⟨g, off + 1, cap - 1, cur, by rw [Nat.add_sub_cancel], hl, hh, by omega, by omega, fun i y hy => ?_⟩
      have := h3 (i + 1) y (by simpa using hy)
      rwa [show off + 1 + i = off + (i + 1) by omega]
end

section
variable {P : Program} (w : World)

theorem run_append_has (lo : Nat) (t ty e : TypeId) (i : TypeInfo) (z : Value) (ht : P.underlying t = some (.slice e)) (hi : P.info? e = some i) (hz : i.zero = some z) (hsize : i.size = 1) (hby : i.bytes = 8) (hzs : z.cells.size = 1)
    (v : Value) (xs : List Value) (h : Has w lo e v xs) (ad : Addr) (c : Nat) (x : Value) (hx : w.cell? (ad.add 0) = some x) (hx1 : x.oneCell' = true)
    (hb : (xs.length + 1) * 8 ≤ 140737488355328) (hlo : lo ≤ w.heap.size) :
    ∃ v' w', (Builtin.append_ #[t, t] ty #[v, .slice (some ad) 1 c]).run P w = .ok v' w' ∧ Has w' lo e v' (xs ++ [x]) ∧ w.grownBy w' v.ownBlock ∧ (v'.ownBlock = v.ownBlock ∨ v'.ownBlock = some w.heap.size) := by
  have hs : Src P i.size t (.slice (some ad) 1 c) 1 [x] w := Src.ofSlice w ht ad 1 c [x] (by simp [hsize]) (fun j u hu => by
    cases j with
    | zero => simp at hu; subst hu; exact hx
    | succ j => simp at hu) (by simpa using hx1)
  have grown : ∀ (base : Option Addr) (sCap : Nat), sCap < xs.length + 1 → (Builtin.firstCells i.size xs.length (.slice base xs.length sCap)).run P w.drew = .ok xs.toArray w.drew → ∀ row,
      ∃ v' w', (Builtin.append_ #[t, t] ty #[.slice base xs.length sCap, .slice (some ad) 1 c]).run P w = .ok v' w' ∧ Has w' lo e v' (xs ++ [x]) ∧ w.grownBy w' row ∧ v'.ownBlock = some w.heap.size := by
    intro base sCap hg hold row
    have hr := run_append_grow_src (P := P) w t t ty e i z ht hi hz base xs.length sCap xs hold (.slice (some ad) 1 c) 1 [x] hs hg (by omega) (by rw [hby]; exact growslice_fits hg hb)
    refine ⟨_, _, hr, .inr ⟨w.heap.size, 0, grownCap w (xs.length + 1) sCap e, _, by simp, hlo, heap_alloc_new w.drew _, ?_, ?_, ?_⟩, ⟨rfl, rfl, rfl, by simp, fun k hk _ => Deep.blk_alloc_lt w.drew _ k hk⟩, rfl⟩
    · simpa using grownCap_ge w (xs.length + 1) sCap e
    · have := grownCap_ge w (xs.length + 1) sCap e
      simp only [Array.size_append, List.size_toArray, List.length_append, List.length_cons, List.length_nil, size_zeroCells, hzs]
      omega
    · intro j y hy
      have hj : j < (xs ++ [x]).length := (List.getElem?_eq_some_iff.1 hy).1
      rw [Nat.zero_add, Array.getElem?_append_left (by simpa using hj)]
      simpa using hy
  rcases h with ⟨rfl, rfl⟩ | ⟨g, off, cap, cur, rfl, hl, hh, h1, h2, h3⟩
  · obtain ⟨v', w', a1, a2, a3, a4⟩ := grown none 0 (by simp) (by simpa using run_firstCells_none w.drew i.size 0 0 0) (Value.ownBlock (.slice none 0 0))
    exact ⟨v', w', a1, a2, a3, .inr a4⟩
  · by_cases hroom : xs.length + 1 ≤ cap
    · have hcell : ∀ k, off + k < cur.size → (w.cell? ⟨g, off + k, none⟩).isSome = true := fun k hk => by
        simp [World.cell?, hh, hk]
      have hfz : ∀ k, w.frozen? ⟨g, k, none⟩ = false := fun k => by simp [World.frozen?, hh]
      have hr := run_append_room_src (P := P) w t t ty e i ht hi g off xs.length cap (.slice (some ad) 1 c) 1 [x] hs hroom (fun j hj => by
        simp at hj; subst hj
        rw [hsize, Nat.mul_one, Nat.add_zero]
        exact hcell _ (by omega)) (fun j hj => hfz _)
      rw [hsize, Nat.mul_one] at hr
      refine ⟨_, _, hr, .inr ⟨g, off, cap, cur.setIfInBounds (off + xs.length) x, by simp, hl, ?_, by simpa using hroom, by simpa using h2, ?_⟩, ?_, .inl rfl⟩
      · simp [World.setCells, World.setCell, Array.getElem?_modify, hh]
      · intro j y hy
        rw [Array.getElem?_setIfInBounds]
        by_cases hj : j < xs.length
        · rw [if_neg (by omega)]
          rw [List.getElem?_append_left hj] at hy
          exact h3 j y hy
        · rw [List.getElem?_append_right (by omega)] at hy
          have hj2 : j = xs.length := by
            have := (List.getElem?_eq_some_iff.1 hy).1
            simp at this
            omega
          subst hj2
          simp at hy
          subst hy
          rw [if_pos rfl, if_pos (by omega)]
      · refine ⟨rfl, rfl, rfl, by simp [World.setCells, World.setCell], fun k hk hne => ?_⟩
        have hkg : k ≠ g := fun e => hne (by rw [e]; rfl)
        simp only [World.setCells]
        exact Deep.blk_setCell_other _ _ _ _ hkg
    · obtain ⟨v', w', a1, a2, a3, a4⟩ := grown (some ⟨g, off, none⟩) cap (by omega) (by
        refine run_firstCells_some w.drew i.size xs.length ⟨g, off, none⟩ xs.length cap xs (by rw [hsize, Nat.mul_one]) (fun j y hy => ?_)
        rw [Addr.add_lit]
        have hc : w.cell? ⟨g, off + j, none⟩ = some y := by simp [World.cell?, hh, h3 j y hy]
        exact hc) (Value.ownBlock (.slice (some ⟨g, off, none⟩) xs.length cap))
      exact ⟨v', w', a1, a2, a3, .inr a4⟩

theorem wpList_append_has {ops : Array Oper} {rest : List Oper} {o : Oper} {a : Act} {Q : Exit → Act → World → Prop} (hgd : o.guard = none) (s y : Operand) (t : TypeId)
    (ho : o.op = .call { callee := .builtin .append, args := #[s, y], argTypes := #[t, t] })
    (lo : Nat) (e : TypeId) (i : TypeInfo) (z : Value) (ht : P.underlying t = some (.slice e)) (hi : P.info? e = some i) (hz : i.zero = some z) (hsize : i.size = 1) (hby : i.bytes = 8) (hzs : z.cells.size = 1)
    (v : Value) (xs : List Value) (hs : a.eval s = v) (h : Has w lo e v xs) (ad : Addr) (c : Nat) (x : Value) (hy : a.eval y = .slice (some ad) 1 c) (hx : w.cell? (ad.add 0) = some x) (hx1 : x.oneCell' = true)
    (hb : (xs.length + 1) * 8 ≤ 140737488355328) (hlo : lo ≤ w.heap.size)
    (hK : ∀ v' w', Has w' lo e v' (xs ++ [x]) → w.grownBy w' v.ownBlock → (v'.ownBlock = v.ownBlock ∨ v'.ownBlock = some w.heap.size) → wpList P ops Q rest (a.put o.dst v') w') : wpList P ops Q (o :: rest) a w := by
  refine wpList_plain hgd fun _ hK' => ?_
  obtain ⟨v', w', hr, h2, h3, h4⟩ := run_append_has (P := P) w lo t o.type e i z ht hi hz hsize hby hzs v xs h ad c x hx hx1 hb hlo
  unfold Oper.wp execOp
  simp only [ho, resolve, invoke, builtin, Sem.run_bind, Sem.run_pure, Result.andThen_ok, List.map_toArray, List.map_cons, List.map_nil, hs, hy, hr]
  exact hK' _ _ (hK v' w' h2 h3 h4)
end

end Go.Proofs.Qxb6616799a
