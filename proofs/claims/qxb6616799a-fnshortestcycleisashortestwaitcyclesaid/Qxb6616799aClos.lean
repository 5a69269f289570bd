/-
  The closure waitsFor (ZZShortestCycleIdx$1, 18), seat b6616799a.
-/
import Derived.Test.Qxb6616799aPath
import Derived.Deep.RegionWith
namespace Go.Proofs.Qxb6616799a
open Go.RowKit Plain

/-- WHAT THE CLOSURE CAPTURED, and what it leads to. -/
structure Env (w : World) (Na Nt Tb gb go n nc : Nat) (A : Nat → Option Addr) (L C RB RO : Nat → Nat) (Z : Nat → Nat → Nat) (T : Nat → Nat) : Prop where
  adjv : w.cell? ⟨Na, 0, none⟩ = some (.slice (some ⟨gb, go, none⟩) n nc)
  tsv : w.cell? ⟨Nt, 0, none⟩ = some (.slice (some ⟨Tb, 0, none⟩) n n)
  ts : w.rowIs Tb 36 n (fun i => tp T i)
  graph : GIn w gb go n A L C RB RO Z
  txns : Txns w T n

section
variable {w wr : World} {Na Nt Tb gb go n nc : Nat} {A : Nat → Option Addr} {L C RB RO : Nat → Nat} {Z : Nat → Nat → Nat} {T : Nat → Nat}
theorem Env.since (h : Env w Na Nt Tb gb go n nc A L C RB RO Z T) {B : Nat} (hB : w.heap.size ≤ B) (hs : w.Since B wr) : Env wr Na Nt Tb gb go n nc A L C RB RO Z T :=
  ⟨by rw [hs.cell (a := ⟨Na, 0, none⟩) (Nat.lt_of_lt_of_le (World.block_lt_of_cell? _ _ h.adjv) hB)]; exact h.adjv,
   by rw [hs.cell (a := ⟨Nt, 0, none⟩) (Nat.lt_of_lt_of_le (World.block_lt_of_cell? _ _ h.tsv) hB)]; exact h.tsv,
   h.ts.of_block (hs.block _ (Nat.lt_of_lt_of_le h.ts.lt hB)), h.graph.since hB hs, h.txns.since hB hs⟩
end

/-- One step behind another. -/
theorem grownBy_then {w w1 w2 : World} {row row' : Option Nat} (h : w.grownBy w1 row) (h' : w1.grownBy w2 row') (hr : row' = row ∨ ∀ k, row' = some k → w.heap.size ≤ k) : w.grownBy w2 row :=
  ⟨h'.os.trans h.os, h'.tape.trans h.tape, h'.output.trans h.output, Nat.le_trans h.size h'.size, fun k hk hne => (h'.block k (Nat.lt_of_lt_of_le hk h.size) (fun e => by
    rcases hr with hr | hr
    · exact hne (e.trans hr)
    · have := hr k e.symm; omega)).trans (h.block k hk hne)⟩
theorem grownBy_refl (w : World) (row : Option Nat) : w.grownBy w row := ⟨rfl, rfl, rfl, Nat.le_refl _, fun _ _ _ => rfl⟩

/-- Where a slice lies by now: in the old one's block, or in a new one. -/
def Near (w : World) (v v' : Value) : Prop := v'.ownBlock = v.ownBlock ∨ ∃ g, v'.ownBlock = some g ∧ w.heap.size ≤ g

theorem Near.step {w w1 : World} {row : Option Nat} {v v1 v2 : Value} (h : Near w v v1) (hg : w.grownBy w1 row) (h' : v2.ownBlock = v1.ownBlock ∨ ∃ g, v2.ownBlock = some g ∧ w1.heap.size ≤ g) : Near w v v2 := by
  rcases h' with h' | ⟨g, h1, h2⟩
  · rcases h with h | ⟨g, h1, h2⟩
    · exact .inl (h'.trans h)
    · exact .inr ⟨g, h'.trans h1, h2⟩
  · exact .inr ⟨g, h1, Nat.le_trans hg.size h2⟩
theorem Near.row {w : World} {v v1 : Value} (h : Near w v v1) : v1.ownBlock = v.ownBlock ∨ ∀ k, v1.ownBlock = some k → w.heap.size ≤ k := by
  rcases h with h | ⟨g, h1, h2⟩
  · exact .inl h
  · exact .inr (fun k hk => by rw [h1] at hk; cases hk; exact h2)

set_option maxHeartbeats 2000000 in
set_option maxRecDepth 100000 in
theorem clos_walk (w0 w : World) (Na Nt Tb gb go n nc : Nat) (A : Nat → Option Addr) (L C RB RO : Nat → Nat) (Z : Nat → Nat → Nat) (T : Nat → Nat) (u : Nat) (sv : Value)
    (hE : Env w0 Na Nt Tb gb go n nc A L C RB RO Z T) (hS : w0.Since w0.heap.size w) (hu : u < n) (_hn : n ≤ 4096) (hLu : L u ≤ 131072) (hH : Has w w0.heap.size 36 sv []) :
    Calls Try.prog 18 #[.pointer (some ⟨T u, 0, none⟩), sv, .pointer (some ⟨Na, 0, none⟩), .pointer (some ⟨Nt, 0, none⟩)] w fun e w' =>
      ∃ v', e = .returned v' ∧ Has w' w0.heap.size 36 v' (tps T (adjOf L Z u)) ∧ w.grownBy w' sv.ownBlock ∧ Near w sv v' := by
  obtain ⟨i0, hi0, hz0, hz1, hz2⟩ := info_parts Try.info36
  have hEw := hE.since (Nat.le_refl _) hS
  have c1 := hEw.adjv
  have c2 := hEw.graph.row u hu
  obtain ⟨au, hau⟩ : ∃ au, A u = au := ⟨_, rfl⟩
  have hau' : 0 < L u → au = some ⟨RB u, RO u, none⟩ := fun h0 => by rw [← hau]; exact (hEw.graph.cells u hu 0 h0).1
  rw [hau] at c2
  clear hau
  have u1 : (u : Int) < (n : Int) := by omega
  have c1' : ∀ o, (w.alloc o).cell? ⟨Na, 0, none⟩ = some (.slice (some ⟨gb, go, none⟩) n nc) := fun o => by
    rw [World.cell?_alloc_lt _ _ _ (World.block_lt_of_cell? _ _ c1)]; exact c1
  have c2' : ∀ o, (w.alloc o).cell? ⟨gb, go + u, none⟩ = some (.slice au (L u) (C u)) := fun o => by
    rw [World.cell?_alloc_lt _ _ _ (World.block_lt_of_cell? _ _ c2)]; exact c2
  have hb := hEw.txns.blk u hu
  have hfl := field_seq (u : Int)
  have hH1 : Has (w.alloc (.cells (idCells u) 40)).drew w0.heap.size 36 sv (tps T (lst 0 (Z u))) := hH.alloc _
  have hg1 : w.grownBy (w.alloc (.cells (idCells u) 40)).drew sv.ownBlock := ⟨rfl, rfl, rfl, (World.grownBy_alloc w (.cells (idCells u) 40) sv.ownBlock).size, (World.grownBy_alloc w (.cells (idCells u) 40) sv.ownBlock).block⟩
  have hown : ∀ k, sv.ownBlock = some k → w0.heap.size ≤ k := fun k hk => (hH.own hk).1
  go_enter Try.func18, Try.ntmps18
  go_wp2_with fail
  go_region_with (go_at_call 19; refine (id_any (T u) u _ (by exact hb)).mono ?_; rintro e w' ⟨rfl, rfl⟩)
  all_goals
    clear hfl hb c1' c2' c1 c2
    go_wp2
    simp only [List.getElem_toArray, List.getElem_cons_succ, List.getElem_cons_zero, Act.put, List.setIfInBounds_toArray, List.set_cons_succ, List.set_cons_zero]
    go_loopg [1, 16] (L u) (fun g st si wr => ∃ k : Nat, k ≤ L u ∧ g = L u - k ∧ si = .int .i64 k ∧ Has wr w0.heap.size 36 st (tps T (lst k (Z u))) ∧ w.grownBy wr sv.ownBlock ∧ Near w sv st)
    case atStart => exact ⟨0, Nat.zero_le _, rfl, rfl, hH1, hg1, .inl rfl⟩
    case round =>
      clear hH1 hg1
      obtain ⟨k, hk, rfl, rfl, hHk, hgk, hnk⟩ := hrel
      by_cases hlt : k < L u
      · obtain rfl := hau' (by omega)
        have hSk : w0.Since w0.heap.size wr := hS.grown hgk hS.size hown
        have hEk := hE.since (Nat.le_refl _) hSk
        have g1 := (hEk.graph.cells u hu k hlt).2
        have g2 := hEk.tsv
        have hz := hEk.graph.lt u k hu hlt
        have g3 := hEk.ts.cell hz
        have hsn := lst_succ k (Z u)
        generalize Z u k = z at g1 hz g3 hsn
        have hcx := box_cell wr (tp T z) 36 wr.heap.size rfl
        have hlen : ((tps T (lst k (Z u))).length + 1) * 8 ≤ 140737488355328 := by rw [tps_len, lst_length]; omega
        have hsz := hSk.size
        have szb : w0.heap.size ≤ (wr.alloc (.cells #[tp T z] 36)).heap.size := by simp; omega
        have k1 : (k : Int) < (L u : Int) := by omega
        have z1 : (z : Int) < (n : Int) := by omega
        have Hsn : Hid (lst (k + 1) (Z u) = lst k (Z u) ++ [z]) := hsn
        clear hsn
        go_wp2_with (at_builtin; refine wpList_append_has _ rfl (.tmp 20) (.tmp 25) 35 rfl w0.heap.size 36 i0 (.pointer none) Try.underlying35 hi0 hz0 hz1 hz2 rfl _ _ rfl (hHk.alloc _) ⟨wr.heap.size, 0, none⟩ 1 (.pointer (some ⟨T z, 0, none⟩)) rfl hcx rfl hlen szb ?_; intro v' w1 hH1 hg1 hloc)
        have hgn : w.grownBy w1 sv.ownBlock := grownBy_then hgk (grownBy_then (World.grownBy_alloc wr (.cells #[tp T z] 36) _) hg1 (.inl rfl)) hnk.row
        have hnn : Near w sv v' := hnk.step hgk (by rcases hloc with h | h; exact .inl h; exact .inr ⟨_, h, by simp⟩)
        rw [tps_snoc, ← Hsn.out] at hH1
        clear hg1 hloc
        go_wp2
        go_roundg (L u - (k + 1))
        case measure => omega
        case rel => exact ⟨k + 1, by omega, rfl, by go_num, hH1, hgn, hnn⟩
      · obtain rfl : k = L u := by omega
        go_wp2
        go_ret
        exact ⟨_, rfl, hHk, hgk, hnk⟩

end Go.Proofs.Qxb6616799a
