/-
  WHAT shortestBackToTx's LOOPS HOLD IN MEMORY (seat b6616799a): no walk here.
-/
import Derived.Test.Qxb6616799aApp
namespace Go.Proofs.Qxb6616799a
open Go.RowKit Plain

/-- 'start' while the edges are counted. -/
def cntF (E : List (Nat × Nat)) : Nat → Int := fun i => if i = 0 then 0 else ((srcs E (i - 1)).length : Int)
theorem cntF_range (E : List (Nat × Nat)) (i : Nat) : 0 ≤ cntF E i ∧ cntF E i ≤ E.length := by
  unfold cntF
  by_cases h : i = 0
  · rw [if_pos h]; omega
  · rw [if_neg h]
    have : (srcs E (i - 1)).length ≤ E.length := by
      unfold srcs
      rw [List.length_map]
      exact List.length_filter_le _ _
    omega
theorem cntF_snoc (E : List (Nat × Nat)) (u v j : Nat) : cntF (E ++ [(u, v)]) j = if j = v + 1 then cntF E (v + 1) + 1 else cntF E j := by
  unfold cntF
  by_cases h : j = v + 1
  · subst h
    rw [if_neg (by omega), if_pos rfl, if_neg (by omega), Nat.add_sub_cancel, srcs_append, srcs_same]
    simp
  · rw [if_neg h]
    by_cases h0 : j = 0
    · rw [if_pos h0, if_pos h0]
    · rw [if_neg h0, if_neg h0, srcs_append, srcs_other (by omega), List.append_nil]

/-- Loops 1 to 3: 'start' alone. -/
structure St1 (w wr : World) (n : Nat) (f : Nat → Int) : Prop where
  since : w.Since w.heap.size wr
  size : wr.heap.size = w.heap.size + 1
  start : Irow wr w.heap.size (n + 1) f

theorem St1.made (w : World) (n : Nat) : St1 w (w.alloc (.cells (madeCells #[.int .i64 0] (n + 1)) 3)) n (cntF []) :=
  ⟨(World.Since.refl _ _).alloc (Nat.le_refl _) _, by simp, (Irow.made w (n + 1)).congr (fun i _ => by simp [cntF, srcs])⟩
theorem St1.set {w wr : World} {n : Nat} {f g : Nat → Int} (h : St1 w wr n f) (i : Nat) (v : Int) (hg : ∀ j, j < n + 1 → g j = if j = i then v else f j) :
    St1 w (wr.setCell ⟨w.heap.size, i, none⟩ (.int .i64 v)) n g :=
  ⟨h.since.setCell (Nat.le_refl _) _, by simp [h.size], h.start.set i v hg⟩

/-- An edge is counted. -/
theorem St1.count {w wr : World} {n u k z : Nat} {c : Int} {L : Nat → Nat} {Z : Nat → Nat → Nat} {tx : Nat} (h : St1 w wr n (cntF (edgesAt (adjOf L Z) tx u k))) (hk : k < L u) (hz : Z u k = z)
    (hc : cntF (edgesAt (adjOf L Z) tx u k) (z + 1) = c) : St1 w (wr.setCell ⟨w.heap.size, z + 1, none⟩ (.int .i64 (c + 1))) n (cntF (edgesAt (adjOf L Z) tx u (k + 1))) := by
  refine h.set (z + 1) (c + 1) (fun j _ => ?_)
  have hk' : k < (adjOf L Z u).length := by rw [adjOf, lst_length]; exact hk
  rw [edgesAt_succ hk', show (adjOf L Z u)[k] = z from (lst_get _ _ k hk).trans hz, cntF_snoc, hc]

theorem edges_len {adj : Nat → List Nat} {tx n u k : Nat} (hu : u < n) (hne : u ≠ tx) (hk : k < (adj u).length) : (edgesAt adj tx u k).length < (edgesTo adj tx n).length := by
  obtain ⟨r, hr⟩ := edgesAt_rest (adj := adj) (tx := tx) hu hne hk
  rw [hr]
  simp

theorem St1.drew {w wr : World} {n : Nat} {f : Nat → Int} (h : St1 w wr n f) : St1 w wr.drew n f := ⟨h.since.drew, h.size, h.start.drew⟩

/-- 'start' while the sums are made: i of them. -/
def preF (E : List (Nat × Nat)) (i : Nat) : Nat → Int := fun j => if j ≤ i then (pre E j : Int) else cntF E j
theorem preF_zero (E : List (Nat × Nat)) (j : Nat) : preF E 0 j = cntF E j := by
  unfold preF
  by_cases h : j ≤ 0
  · obtain rfl : j = 0 := by omega
    rw [if_pos h]; rfl
  · rw [if_neg h]
theorem preF_next (E : List (Nat × Nat)) (i : Nat) : preF E i (i + 1) = ((srcs E i).length : Int) := by
  unfold preF cntF
  rw [if_neg (by omega), if_neg (by omega), Nat.add_sub_cancel]
theorem preF_here (E : List (Nat × Nat)) (i : Nat) : preF E i i = (pre E i : Int) := if_pos (Nat.le_refl _)
theorem preF_step (E : List (Nat × Nat)) (i j : Nat) : preF E (i + 1) j = if j = i + 1 then ((srcs E i).length : Int) + (pre E i : Int) else preF E i j := by
  unfold preF
  by_cases h : j = i + 1
  · subst h
    rw [if_pos (Nat.le_refl _), if_pos rfl]
    show ((pre E i + (srcs E i).length : Nat) : Int) = _
    omega
  · rw [if_neg h]
    by_cases h2 : j ≤ i
    · rw [if_pos h2, if_pos (by omega)]
    · rw [if_neg h2, if_neg (by omega)]

theorem edges_lt {L : Nat → Nat} {Z : Nat → Nat → Nat} {tx n : Nat} (h : ∀ r c, r < n → c < L r → Z r c < n) : ∀ e ∈ edgesTo (adjOf L Z) tx n, e.2 < n := by
  rintro ⟨u, v⟩ he
  obtain ⟨h1, _, h3⟩ := mem_edgesTo.1 he
  obtain ⟨i, hi, rfl⟩ := lst_mem.1 h3
  exact h u i h1 hi
theorem srcs_bound {adj : Nat → List Nat} {tx n v x : Nat} (h : x ∈ srcs (edgesTo adj tx n) v) : x < n := (mem_edgesTo.1 (mem_srcs.1 h)).1

/-- 'start', 'fill'. -/
structure St2 (w wr : World) (n : Nat) (E : List (Nat × Nat)) (f : Nat → Int) : Prop where
  since : w.Since w.heap.size wr
  size : wr.heap.size = w.heap.size + 2
  start : Irow wr w.heap.size (n + 1) (fun j => (pre E j : Int))
  fill : Irow wr (w.heap.size + 1) n f
def fillF (E : List (Nat × Nat)) (k : Nat) : Nat → Int := fun j => if j < k then (pre E j : Int) else 0
theorem St2.made {w wr : World} {n : Nat} {E : List (Nat × Nat)} (h : St1 w wr n (preF E n)) : St2 w (wr.alloc (.cells (madeCells #[.int .i64 0] n) 3)) n E (fillF E 0) := by
  have hm := Irow.made wr n
  rw [h.size] at hm
  exact ⟨h.since.alloc (by rw [h.size]; omega) _, by simp [h.size], (h.start.congr (fun j hj => if_pos (by omega))).alloc _, hm.congr (fun j _ => by simp [fillF])⟩
theorem St2.step {w wr : World} {n k : Nat} {E : List (Nat × Nat)} (h : St2 w wr n E (fillF E k)) : St2 w (wr.setCell ⟨w.heap.size + 1, k, none⟩ (.int .i64 (pre E k : Int))) n E (fillF E (k + 1)) := by
  refine ⟨h.since.setCell (by show w.heap.size ≤ w.heap.size + 1; omega) _, by simp [h.size], h.start.other (by omega) _, h.fill.set k _ (fun j _ => ?_)⟩
  unfold fillF
  by_cases e : j = k
  · subst e; simp
  · rw [if_neg e]
    by_cases h2 : j < k
    · rw [if_pos h2, if_pos (by omega)]
    · rw [if_neg h2, if_neg (by omega)]

/-- 'start', 'fill', 'rev': the edges E' sorted in. -/
structure St3 (w wr : World) (n : Nat) (E E' : List (Nat × Nat)) : Prop where
  since : w.Since w.heap.size wr
  size : wr.heap.size = w.heap.size + 3
  start : Irow wr w.heap.size (n + 1) (fun j => (pre E j : Int))
  fill : Irow wr (w.heap.size + 1) n (fun v => ((pre E v + (srcs E' v).length : Nat) : Int))
  rev : ∃ rv : Nat → Nat, Filled E E' rv ∧ Irow wr (w.heap.size + 2) (pre E n) (fun i => (rv i : Int))
theorem St3.made {w wr : World} {n : Nat} {E : List (Nat × Nat)} (h : St2 w wr n E (fillF E n)) : St3 w (wr.alloc (.cells (madeCells #[.int .i64 0] (pre E n)) 3)) n E [] := by
  have hm := Irow.made wr (pre E n)
  rw [h.size] at hm
  exact ⟨h.since.alloc (by rw [h.size]; omega) _, by simp [h.size], h.start.alloc _, (h.fill.congr (fun j hj => by simp [fillF, hj, srcs])).alloc _, fun _ => 0, Filled.start _ _, hm⟩
theorem St3.step {w wr : World} {n : Nat} {E E' r : List (Nat × Nat)} {u v p : Nat} (h : St3 w wr n E E') (hE : E = E' ++ (u, v) :: r) (hp : pre E v + (srcs E' v).length = p) :
    St3 w ((wr.setCell ⟨w.heap.size + 2, p, none⟩ (.int .i64 (u : Int))).setCell ⟨w.heap.size + 1, v, none⟩ (.int .i64 ((p : Int) + 1))) n E (E' ++ [(u, v)]) := by
  subst hp
  obtain ⟨rv, hf, hr⟩ := h.rev
  refine ⟨(h.since.setCell (by show w.heap.size ≤ w.heap.size + 2; omega) _).setCell (by show w.heap.size ≤ w.heap.size + 1; omega) _, by simp [h.size], (h.start.other (by omega) _).other (by omega) _, (h.fill.other (by omega) _).set v _ (fun j _ => ?_),
    fun p => if p = pre E v + (srcs E' v).length then u else rv p, hf.step hE, (hr.set _ _ (fun j _ => ?_)).other (by omega) _⟩
  · by_cases e : j = v
    · subst e
      rw [if_pos rfl, srcs_append, srcs_same]
      simp
      omega
    · rw [if_neg e, srcs_append, srcs_other e, List.append_nil]
  · dsimp only
    by_cases e : j = pre E v + (srcs E' v).length
    · rw [if_pos e, if_pos e]
    · rw [if_neg e, if_neg e]

/-- 'start', 'rev', 'dist'. -/
structure St4 (w wr : World) (n : Nat) (E : List (Nat × Nat)) (f : Nat → Int) : Prop where
  since : w.Since w.heap.size wr
  size : w.heap.size + 4 ≤ wr.heap.size
  start : Irow wr w.heap.size (n + 1) (fun j => (pre E j : Int))
  rev : ∃ rv : Nat → Nat, Filled E E rv ∧ Irow wr (w.heap.size + 2) (pre E n) (fun i => (rv i : Int))
  dist : Irow wr (w.heap.size + 3) n f
def distF (k : Nat) : Nat → Int := fun j => if j < k then -1 else 0
theorem St4.made {w wr : World} {n : Nat} {E : List (Nat × Nat)} (h : St3 w wr n E E) : St4 w (wr.alloc (.cells (madeCells #[.int .i64 0] n) 3)) n E (distF 0) := by
  have hm := Irow.made wr n
  rw [h.size] at hm
  obtain ⟨rv, hf, hr⟩ := h.rev
  exact ⟨h.since.alloc (by rw [h.size]; omega) _, by simp [h.size], h.start.alloc _, ⟨rv, hf, hr.alloc _⟩, hm.congr (fun j _ => by simp [distF])⟩
theorem St4.set {w wr : World} {n : Nat} {E : List (Nat × Nat)} {f g : Nat → Int} (h : St4 w wr n E f) (k : Nat) (v : Int) (hg : ∀ j, j < n → g j = if j = k then v else f j) :
    St4 w (wr.setCell ⟨w.heap.size + 3, k, none⟩ (.int .i64 v)) n E g := by
  obtain ⟨rv, hf, hr⟩ := h.rev
  exact ⟨h.since.setCell (by show w.heap.size ≤ w.heap.size + 3; omega) _, by simp [h.size], h.start.other (by omega) _, ⟨rv, hf, hr.other (by omega) _⟩, h.dist.set k v hg⟩
theorem distF_step (k j : Nat) : distF (k + 1) j = if j = k then -1 else distF k j := by
  unfold distF
  by_cases e : j = k
  · subst e; simp
  · rw [if_neg e]
    by_cases h2 : j < k
    · rw [if_pos h2, if_pos (by omega)]
    · rw [if_neg h2, if_neg (by omega)]
theorem distF_tx (n tx j : Nat) (hj : j < n) : dEnc (d0 tx j) = if j = tx then 0 else distF n j := by
  unfold d0 distF
  by_cases e : j = tx
  · rw [if_pos e, if_pos e]; rfl
  · rw [if_neg e, if_neg e, if_pos hj]; rfl
theorem St4.grown {w wr w' : World} {n : Nat} {E : List (Nat × Nat)} {f : Nat → Int} {row : Option Nat} (h : St4 w wr n E f) (hg : wr.grownBy w' row) (hr : ∀ k, row = some k → w.heap.size + 4 ≤ k) : St4 w w' n E f := by
  obtain ⟨rv, hf, hrow⟩ := h.rev
  have hs := h.size
  have key : ∀ k, k < w.heap.size + 4 → w'.heap[k]? = wr.heap[k]? := fun k hk => hg.block k (by omega) (fun e => by have := hr k e.symm; omega)
  exact ⟨h.since.grown hg (by omega) (fun k hk => by have := hr k hk; omega), Nat.le_trans h.size hg.size, World.rowIs.of_block h.start (key _ (by omega)), ⟨rv, hf, World.rowIs.of_block hrow (key _ (by omega))⟩, World.rowIs.of_block h.dist (key _ (by omega))⟩
theorem St4.alloc {w wr : World} {n : Nat} {E : List (Nat × Nat)} {f : Nat → Int} (h : St4 w wr n E f) (o : Obj) : St4 w (wr.alloc o) n E f := h.grown (World.grownBy_alloc wr o none) (fun k hk => by cases hk)

/-- The values of a list of vertices. -/
def ints (l : List Nat) : List Value := l.map (fun (x : Nat) => Value.int .i64 (x : Int))
theorem ints_snoc (l : List Nat) (x : Nat) : ints l ++ [.int .i64 (x : Int)] = ints (l ++ [x]) := by simp [ints]
theorem ints_len (l : List Nat) : (ints l).length = l.length := by simp [ints]
theorem ints_get {l : List Nat} {i : Nat} (h : i < l.length) : (ints l)[i]? = some (.int .i64 (l[i] : Int)) := by simp [ints, h]

/-- .. and the queue. -/
structure St5 (w wr : World) (n : Nat) (E : List (Nat × Nat)) (d : Nat → Option Nat) (Lq : List Nat) (q : Value) : Prop where
  four : St4 w wr n E (fun i => dEnc (d i))
  queue : Has wr (w.heap.size + 4) 3 q (ints Lq)

/-- 'dist[x] = dist[v] + 1', 'queue = append(queue, x)'. -/
theorem St5.four_put {w wr : World} {n : Nat} {E : List (Nat × Nat)} {d : Nat → Option Nat} (h : St4 w wr n E (fun i => dEnc (d i))) (x du : Nat) :
    St4 w (wr.setCell ⟨w.heap.size + 3, x, none⟩ (.int .i64 ((du : Int) + 1))) n E (fun i => dEnc (put d x (du + 1) i)) := by
  refine h.set x _ (fun j _ => ?_)
  unfold put
  by_cases e : j = x
  · rw [if_pos e, if_pos e]; rfl
  · rw [if_neg e, if_neg e]
theorem Has.set_below {w : World} {lo : Nat} {e : TypeId} {v : Value} {xs : List Value} (h : Has w lo e v xs) {b i : Nat} (hb : b < lo) (u : Value) : Has (w.setCell ⟨b, i, none⟩ u) lo e v xs :=
  h.block (fun k hk => Deep.blk_setCell_other _ _ _ _ (by have := (h.own hk).1; show k ≠ b; omega))

theorem take_snoc {l : List Nat} {k x : Nat} (h : l[k]? = some x) : l.take (k + 1) = l.take k ++ [x] := by
  obtain ⟨hk, rfl⟩ := List.getElem?_eq_some_iff.1 h
  rw [List.take_succ_eq_append_getElem hk]

/-- 'make([]int, 0, n)'. -/
theorem make_room (n : Nat) (hn : n ≤ 131072) (wx : World) : (Instr.makeSlice 23 (.int .i64 0) (.int .i64 (n : Int))).run Try.prog wx = .ok (.slice (some ⟨wx.heap.size, 0, none⟩) 0 n) (wx.alloc (.cells (madeCells #[.int .i64 0] n) 3)) := by
  obtain ⟨i0, hi, hz0, hz1, hz2⟩ := info_parts Try.info3
  have hr := run_make (P := Try.prog) wx 23 3 i0 (.int .i64 0) Try.underlying23 hi hz0 .i64 .i64 0 (n : Int) (by omega) (by omega) (by rw [hz2]; omega) (by omega)
  rw [hz1] at hr
  simpa [Value.cells] using hr
theorem Has.made (w : World) (n lo : Nat) (hlo : lo ≤ w.heap.size) : Has (w.alloc (.cells (madeCells #[.int .i64 0] n) 3)) lo 3 (.slice (some ⟨w.heap.size, 0, none⟩) 0 n) [] :=
  .inr ⟨w.heap.size, 0, n, _, rfl, hlo, Deep.blk_alloc_new _ _, Nat.zero_le _, by rw [size_madeCells]; simp, fun i x hx => by simp at hx⟩

theorem box_cell (W : World) (x : Value) (e : TypeId) (n : Nat) (hn : n = W.heap.size) : (W.alloc (.cells #[x] e)).cell? ((⟨n, 0, none⟩ : Addr).add 0) = some x := by
  subst hn
  rw [Addr.add_lit]
  simp

end Go.Proofs.Qxb6616799a
