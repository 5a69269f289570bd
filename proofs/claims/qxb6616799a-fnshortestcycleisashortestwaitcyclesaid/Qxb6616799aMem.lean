/-
  MEMORY WORDS for 'Rows.FnShortestCycleIsAShortestWaitCycleSaid' (seat b6616799a): the graph that came in; rows of ints of the call's own.
-/
import Derived.Test.Qxb6616799aRows
import Derived.Test.Qxb6616799aPlain
import Derived.WalkKit
import Derived.WalkSpells
import Derived.Deep.LoopGhost
import Derived.Deep.OwnRows
import Derived.Deep.QuietTactic
import Derived.BigQuiet
import Derived.BigRegion
import Derived.Deep.Light
namespace Go.Proofs.Qxb6616799a
open Go.RowKit

theorem Try.info3 : (Try.prog.info? 3).map (fun i => (i.zero, i.size, i.bytes)) = some (some (.int .i64 0), 1, 8) := by kernel_rfl
theorem Try.info36 : (Try.prog.info? 36).map (fun i => (i.zero, i.size, i.bytes)) = some (some (.pointer none), 1, 8) := by kernel_rfl

/-- THE ADJACENCY LISTS THAT CAME IN: n rows; row r's slice; its numbers, each below n. -/
structure GIn (w : World) (gb go n : Nat) (A : Nat → Option Addr) (L C RB RO : Nat → Nat) (Z : Nat → Nat → Nat) : Prop where
  row : ∀ r, r < n → w.cell? ⟨gb, go + r, none⟩ = some (.slice (A r) (L r) (C r))
  cells : ∀ r, r < n → ∀ c, c < L r → A r = some ⟨RB r, RO r, none⟩ ∧ w.cell? ⟨RB r, RO r + c, none⟩ = some (.int .i64 (Z r c : Nat))
  lt : ∀ r c, r < n → c < L r → Z r c < n

theorem GIn.since {w wr : World} {gb go n : Nat} {A : Nat → Option Addr} {L C RB RO : Nat → Nat} {Z : Nat → Nat → Nat} (h : GIn w gb go n A L C RB RO Z) {B : Nat} (hB : w.heap.size ≤ B) (hs : w.Since B wr) : GIn wr gb go n A L C RB RO Z := by
  refine ⟨fun r hr => ?_, fun r hr c hc => ⟨(h.cells r hr c hc).1, ?_⟩, h.lt⟩
  · rw [hs.cell (a := ⟨gb, go + r, none⟩) (Nat.lt_of_lt_of_le (World.block_lt_of_cell? _ _ (h.row r hr)) hB)]
    exact h.row r hr
  · rw [hs.cell (a := ⟨RB r, RO r + c, none⟩) (Nat.lt_of_lt_of_le (World.block_lt_of_cell? _ _ (h.cells r hr c hc).2) hB)]
    exact (h.cells r hr c hc).2

/-- A SLICE OF INTS, each number a natural one. -/
def NIn (w : World) (a : Option Addr) (m : Nat) (B : Nat → Nat) : Prop :=
  0 < m → ∃ b off, a = some ⟨b, off, none⟩ ∧ ∀ i, i < m → w.cell? ⟨b, off + i, none⟩ = some (.int .i64 (B i : Nat))
theorem NIn.since {w wr : World} {a : Option Addr} {m : Nat} {B : Nat → Nat} (h : NIn w a m B) {b : Nat} (hB : w.heap.size ≤ b) (hs : w.Since b wr) : NIn wr a m B := fun h0 => by
  obtain ⟨b, off, ha, hc⟩ := h h0
  refine ⟨b, off, ha, fun i hi => ?_⟩
  rw [hs.cell (a := ⟨b, off + i, none⟩) (Nat.lt_of_lt_of_le (World.block_lt_of_cell? _ _ (hc i hi)) hB)]
  exact hc i hi

/-- The list that a row's first m numbers make. -/
def lst (m : Nat) (B : Nat → Nat) : List Nat := (List.range m).map B
theorem lst_length (m : Nat) (B : Nat → Nat) : (lst m B).length = m := by simp [lst]
theorem lst_get (m : Nat) (B : Nat → Nat) (i : Nat) (h : i < m) : (lst m B)[i]'(by rw [lst_length]; exact h) = B i := by simp [lst]
theorem lst_mem {m : Nat} {B : Nat → Nat} {x : Nat} : x ∈ lst m B ↔ ∃ i, i < m ∧ B i = x := by simp [lst]
theorem lst_succ (m : Nat) (B : Nat → Nat) : lst (m + 1) B = lst m B ++ [B m] := by simp [lst, List.range_succ]
theorem lst_take (m k : Nat) (B : Nat → Nat) (h : k ≤ m) : (lst m B).take k = lst k B := by
  apply List.ext_getElem
  · simp [lst]; omega
  · intro i h1 h2
    simp [lst]
/-- What each transaction waits for. -/
def adjOf (L : Nat → Nat) (Z : Nat → Nat → Nat) (u : Nat) : List Nat := lst (L u) (Z u)

/-- A row of ints of the call's own. -/
def Irow (w : World) (b m : Nat) (f : Nat → Int) : Prop := w.rowIs b 3 m (fun i => .int .i64 (f i))
namespace Irow
variable {w : World} {b m : Nat} {f g : Nat → Int}
theorem cell (h : Irow w b m f) {i : Nat} (hi : i < m) : w.cell? ⟨b, i, none⟩ = some (.int .i64 (f i)) := World.rowIs.cell h hi
theorem free (h : Irow w b m f) (i : Nat) : w.frozen? ⟨b, i, none⟩ = false := World.rowIs.frozen h i
theorem lt (h : Irow w b m f) : b < w.heap.size := World.rowIs.lt h
theorem congr (h : Irow w b m f) (e : ∀ i, i < m → f i = g i) : Irow w b m g := World.rowIs.congr h (fun i hi => by rw [e i hi])
theorem set (h : Irow w b m f) (i : Nat) (v : Int) (hg : ∀ j, j < m → g j = if j = i then v else f j) : Irow (w.setCell ⟨b, i, none⟩ (.int .i64 v)) b m g :=
  (World.rowIs.set h i (.int .i64 v)).congr (fun j hj => by
    rw [hg j hj]
    by_cases e : j = i
    · rw [if_pos e, if_pos e]
    · rw [if_neg e, if_neg e])
theorem other (h : Irow w b m f) {b' i : Nat} (hne : b ≠ b') (v : Value) : Irow (w.setCell ⟨b', i, none⟩ v) b m f := World.rowIs.setOther h (a := ⟨b', i, none⟩) hne v
theorem alloc (h : Irow w b m f) (o : Obj) : Irow (w.alloc o) b m f := World.rowIs.alloc h o
theorem drew (h : Irow w b m f) : Irow w.drew b m f := h
theorem drewN (h : Irow w b m f) (q : Nat) : Irow (w.drewN q) b m f := h
end Irow
theorem Irow.made (w : World) (n : Nat) : Irow (w.alloc (.cells (madeCells #[.int .i64 0] n) 3)) w.heap.size n (fun _ => 0) := World.rowIs_made w _ n 3

theorem Since_drewN {B : Nat} {w wr : World} (h : w.Since B wr) (q : Nat) : w.Since B (wr.drewN q) := ⟨h.os, h.tape, h.output, h.size, h.block⟩

end Go.Proofs.Qxb6616799a
