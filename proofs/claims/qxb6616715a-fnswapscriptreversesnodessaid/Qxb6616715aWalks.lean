/-
  THE WALKS for 'Rows.FnSwapScriptReversesNodesSaid' (seat b6616715a).
-/
import Derived.Test.Qxb6616715aRows
import Derived.WalkKit
import Derived.WalkSpells
import Derived.Deep.LoopGhost
import Derived.Deep.OwnRows
import Derived.Deep.QuietTactic
import Derived.BigQuiet
import Derived.BigRegion
import Derived.Deep.Light
namespace Go.Proofs.Qxb6616715a
open Go.RowKit

theorem Try.info3 : (Try.prog.info? 3).map (fun i => (i.zero, i.size, i.bytes)) = some (some (.int .i64 0), 1, 8) := by kernel_rfl

/-! ### zzBytes -/
theorem bytes_in (a : Option Addr) (len cap : Nat) (v : Int) (h : len ≤ 1048576) (w : World) :
    Calls Try.prog 5 #[.slice a len cap, .int .i64 v] w fun e w' => e = .returned (.bool true) ∧ w = w' := by
  go_enter Try.func5, Try.ntmps5
  go_wp2
  go_ret
  exact ⟨rfl, rfl⟩
theorem bytes_out (a : Option Addr) (len cap : Nat) (v : Int) (h : 1048576 < len) (w : World) :
    Calls Try.prog 5 #[.slice a len cap, .int .i64 v] w fun e w' => e = .returned (.bool false) ∧ w = w' := by
  go_enter Try.func5, Try.ntmps5
  go_wp2
  go_ret
  exact ⟨rfl, rfl⟩

/-! ### zzCloneInts -/
/-- What is known of a slice of ints whose elements are 'Z 0 .. Z (len - 1)'. -/
def Reads (w : World) (a : Option Addr) (len cap : Nat) (Z : Nat → Int) : Prop :=
  (a = none → len = 0 ∧ cap = 0) ∧ (0 < len → ∃ b off, a = some ⟨b, off, none⟩ ∧ ∀ i, i < len → w.cell? ⟨b, off + i, none⟩ = some (.int .i64 (Z i)))

/-- The row that is being filled: the first k of Z, then noughts. -/
def fillTo (Z : Nat → Int) (k : Nat) : Nat → Value := fun i => if i < k then .int .i64 (Z i) else .int .i64 0

/-- At the loop's head, k elements copied. -/
structure Filling (w wr : World) (len k : Nat) (Z : Nat → Int) : Prop where
  since : w.Since w.heap.size wr
  size : wr.heap.size = w.heap.size + 1
  row : wr.rowIs w.heap.size 3 len (fillTo Z k)

theorem filling_start (w : World) (len : Nat) (Z : Nat → Int) : Filling w (w.alloc (.cells (madeCells #[.int .i64 0] len) 3)) len 0 Z :=
  ⟨(World.Since.refl _ _).alloc (Nat.le_refl _) _, by simp, (World.rowIs_made w _ len 3).congr (fun j _ => by simp [fillTo])⟩
theorem filling_step {w wr : World} {len k : Nat} {Z : Nat → Int} (h : Filling w wr len k Z) :
    Filling w (wr.setCell ⟨w.heap.size, k, none⟩ (.int .i64 (Z k))) len (k + 1) Z := by
  refine ⟨h.since.setCell (Nat.le_refl _) _, by simp [h.size], (h.row.set k _).congr (fun i _ => ?_)⟩
  unfold fillTo
  by_cases e : i = k
  · subst e; simp
  · rw [if_neg e]
    by_cases hlt : i < k
    · rw [if_pos hlt, if_pos (by omega)]
    · rw [if_neg hlt, if_neg (by omega)]

theorem clone_nil (w : World) :
    Calls Try.prog 6 #[.slice none 0 0] w fun e w' => e = .returned (.slice none 0 0) ∧ w = w' := by
  have q22 : ∀ (w : World) (a : Option Addr) (n c n' c' : Nat), (binOp .eql 22 (.slice a n c) (.slice none n' c')).run Try.prog w = .ok (.bool a.isNone) w := fun w a n c n' c' => Lib.run_eql_slice_nil w _ _ a n c n' c' Try.underlying22
  go_enter Try.func6, Try.ntmps6
  go_wp2
  go_ret
  exact ⟨rfl, rfl⟩

theorem clone_some (x : Addr) (len cap : Nat) (Z : Nat → Int) (hlen : len ≤ 131072) (w : World)
    (hx : 0 < len → ∃ b off, x = ⟨b, off, none⟩ ∧ ∀ i, i < len → w.cell? ⟨b, off + i, none⟩ = some (.int .i64 (Z i))) :
    Calls Try.prog 6 #[.slice (some x) len cap] w fun e w' => e = .returned (.slice (some ⟨w.heap.size, 0, none⟩) len len) ∧ Filling w w' len len Z := by
  have q22 : ∀ (w : World) (a : Option Addr) (n c n' c' : Nat), (binOp .eql 22 (.slice a n c) (.slice none n' c')).run Try.prog w = .ok (.bool a.isNone) w := fun w a n c n' c' => Lib.run_eql_slice_nil w _ _ a n c n' c' Try.underlying22
  have hmk := run_make_row' (P := Try.prog) 22 3 (.int .i64 0) 8 Try.underlying22 Try.info3 rfl .i64 .i64 len (by omega) (by omega)
  go_enter Try.func6, Try.ntmps6
  go_wp2
  clear hmk q22
  go_loopg [4] len (fun g i wr => ∃ k : Nat, k ≤ len ∧ g = len - k ∧ i = .int .i64 k ∧ Filling w wr len k Z)
  case atStart => exact ⟨0, Nat.zero_le _, rfl, rfl, filling_start w len Z⟩
  case round =>
    obtain ⟨k, hk, rfl, rfl, hF⟩ := hrel
    by_cases hlt : k < len
    · obtain ⟨b, off, rfl, hc⟩ := hx (by omega)
      have g0 : wr.cell? ⟨b, off + k, none⟩ = some (.int .i64 (Z k)) := by
        rw [hF.since.cell (a := ⟨b, off + k, none⟩) (World.block_lt_of_cell? _ _ (hc k hlt))]; exact hc k hlt
      have g1 : wr.cell? ⟨w.heap.size, k, none⟩ = some (fillTo Z k k) := hF.row.cell hlt
      have g2 : wr.frozen? ⟨w.heap.size, k, none⟩ = false := hF.row.frozen k
      clear hc hx
      go_wp2
      go_roundg (len - (k + 1))
      case measure => omega
      case rel => exact ⟨k + 1, by omega, rfl, by go_num, filling_step hF⟩
    · obtain rfl : k = len := by omega
      go_wp2
      go_ret
      exact ⟨rfl, hF⟩

/-! ### (nodeHeap).Swap, ZZSwap -/
/-- What the row holds behind the exchange of its i-th and j-th cell. -/
def swapped (f : Nat → Value) (i j : Nat) : Nat → Value := fun p => if p = j then f i else if p = i then f j else f p

theorem swap_world (w : World) (o : Obj) (b n i j : Nat) (f : Nat → Value) (h : w.rowIs b 3 n f) :
    (((w.setCell ⟨b, i, none⟩ (f j)).setCell ⟨b, j, none⟩ (f i)).alloc o).drew.rowIs b 3 n (swapped f i j) ∧
    w.grownBy (((w.setCell ⟨b, i, none⟩ (f j)).setCell ⟨b, j, none⟩ (f i)).alloc o).drew (some b) := by
  refine ⟨(((h.set i (f j)).set j (f i)).alloc o).drew.congr (fun p _ => rfl), ⟨rfl, rfl, rfl, ?_, ?_⟩⟩
  · show w.heap.size ≤ (((w.setCell ⟨b, i, none⟩ (f j)).setCell ⟨b, j, none⟩ (f i)).alloc o).heap.size
    simp
  · intro k hk hne
    show (((w.setCell ⟨b, i, none⟩ (f j)).setCell ⟨b, j, none⟩ (f i)).alloc o).heap[k]? = _
    have hkb : k ≠ b := fun e => hne (by rw [e])
    rw [Deep.blk_alloc_lt _ _ _ (by rw [Deep.nblk_setCell, Deep.nblk_setCell]; exact hk), Deep.blk_setCell_other _ _ _ _ hkb, Deep.blk_setCell_other _ _ _ _ hkb]

set_option maxHeartbeats 1000000 in
theorem swap_any (b n i j : Nat) (v : Int) (f : Nat → Int) (hij : i < j) (hj : j < n) (_hn : n ≤ 131072) (w : World) (h : w.rowIs b 3 n (fun p => .int .i64 (f p))) :
    Calls Try.prog 10 #[.agg #[.slice (some ⟨b, 0, none⟩) n n, .int .i64 v], .int .i64 (i : Int), .int .i64 (j : Int)] w fun e w' => e = .returned (.tuple #[]) ∧
      w'.rowIs b 3 n (swapped (fun p => .int .i64 (f p)) i j) ∧ w.grownBy w' (some b) := by
  have hb := h.lt
  have hS := fun o => swap_world w o b n i j _ h
  have ci : w.cell? ⟨b, i, none⟩ = some (.int .i64 (f i)) := h.cell (by omega)
  have cj : w.cell? ⟨b, j, none⟩ = some (.int .i64 (f j)) := h.cell hj
  have fi : w.frozen? ⟨b, i, none⟩ = false := h.frozen i
  have fj : w.frozen? ⟨b, j, none⟩ = false := h.frozen j
  have li : (i : Int) < (n : Int) := by omega
  have lj : (j : Int) < (n : Int) := by omega
  clear h
  go_enter Try.func10, Try.ntmps10
  go_wp2
  go_region
  go_end0
  exact ⟨rfl, (hS _).1, (hS _).2⟩

theorem zzSwap_any (b n i j : Nat) (v : Int) (f : Nat → Int) (hij : i < j) (hj : j < n) (hn : n ≤ 131072) (w : World) (h : w.rowIs b 3 n (fun p => .int .i64 (f p))) :
    Calls Try.prog 7 #[.slice (some ⟨b, 0, none⟩) n n, .int .i64 v, .int .i64 (i : Int), .int .i64 (j : Int)] w fun e w' => e = .returned (.tuple #[]) ∧
      w'.rowIs b 3 n (swapped (fun p => .int .i64 (f p)) i j) ∧ w.grownBy w' (some b) := by
  go_enter Try.func7, Try.ntmps7
  go_wp2_with fail
  refine (swap_any b n i j v f hij hj hn _ h).mono ?_
  rintro e w' ⟨rfl, hr, hg⟩
  go_wp2
  go_end0
  exact ⟨rfl, hr, hg⟩

/-! ### THE LAW -/
/-- The node list behind k exchanges. -/
def revTo (Z : Nat → Int) (n k : Nat) : Nat → Int := fun p => if p < k ∨ n - k ≤ p then Z (n - 1 - p) else Z p

theorem revTo_in {Z : Nat → Int} {n k p : Nat} (h : p < k ∨ n - k ≤ p) : revTo Z n k p = Z (n - 1 - p) := if_pos h
theorem revTo_mid {Z : Nat → Int} {n k p : Nat} (h : ¬ (p < k ∨ n - k ≤ p)) : revTo Z n k p = Z p := if_neg h
theorem revTo_step (Z : Nat → Int) (n k p : Nat) (hk : 2 * k + 1 < n) (hp : p < n) :
    swapped (fun p => .int .i64 (revTo Z n k p)) k (n - 1 - k) p = .int .i64 (revTo Z n (k + 1) p) := by
  dsimp only [swapped]
  by_cases e1 : p = n - 1 - k
  · rw [if_pos e1, revTo_in (p := p) (by omega), revTo_mid (p := k) (by omega), show n - 1 - p = k by omega]
  · rw [if_neg e1]
    by_cases e2 : p = k
    · rw [if_pos e2, revTo_in (p := p) (by omega), revTo_mid (p := n - 1 - k) (by omega), e2]
    · rw [if_neg e2]
      by_cases e3 : p < k ∨ n - k ≤ p
      · rw [revTo_in e3, revTo_in (p := p) (by omega)]
      · rw [revTo_mid e3, revTo_mid (p := p) (by omega)]
theorem revTo_end (Z : Nat → Int) (n k p : Nat) (hk : n ≤ 2 * k + 1) (hp : p < n) : revTo Z n k p = Z (n - 1 - p) := by
  unfold revTo
  by_cases e3 : p < k ∨ n - k ≤ p
  · rw [if_pos e3]
  · rw [if_neg e3]
    congr 1
    omega

/-- At the first loop's head, k exchanges done. -/
structure Turning (w wr : World) (B O n k : Nat) (Z : Nat → Int) : Prop where
  since : w.Since w.heap.size wr
  nodes : wr.rowIs B 3 n (fun p => .int .i64 (revTo Z n k p))
  orig : wr.rowIs O 3 n (fun p => .int .i64 (Z p))
theorem turning_step {w wr w' : World} {B O n k : Nat} {Z : Nat → Int} (h : Turning w wr B O n k Z) (hB : w.heap.size ≤ B) (hBO : O ≠ B) (hk : 2 * k + 1 < n)
    (hr : w'.rowIs B 3 n (swapped (fun p => .int .i64 (revTo Z n k p)) k (n - 1 - k))) (hg : wr.grownBy w' (some B)) : Turning w w' B O n (k + 1) Z :=
  ⟨h.since.grown hg h.since.size (fun j hj => by cases hj; exact hB), hr.congr (fun p hp => revTo_step Z n k p hk hp), h.orig.of_block (hg.block O h.orig.lt (fun e => hBO (by simpa using e)))⟩

theorem turning_drewN {w wr : World} {B O n k : Nat} {Z : Nat → Int} (h : Turning w wr B O n k Z) (q : Nat) : Turning w (wr.drewN q) B O n k Z :=
  ⟨⟨h.since.os, h.since.tape, h.since.output, h.since.size, h.since.block⟩, h.nodes.of_block rfl, h.orig.of_block rfl⟩
theorem turning_start {w w1 w2 : World} {n : Nat} {Z : Nat → Int} (h1 : Filling w w1 n n Z) (h2 : Filling w1 w2 n n Z) : Turning w w2 w.heap.size w1.heap.size n 0 Z := by
  have hs := h1.size
  refine ⟨h1.since.trans ⟨h2.since.os, h2.since.tape, h2.since.output, h2.since.size, fun k hk => h2.since.block k (by omega)⟩, ?_, h2.row.congr (fun p hp => if_pos hp)⟩
  refine (h1.row.of_block (h2.since.block _ h1.row.lt)).congr (fun p hp => ?_)
  rw [revTo_mid (by omega)]
  exact if_pos hp

/-- Nothing to turn: both clones are empty. -/
theorem law_none (a : Option Addr) (cap : Nat) (v : Int) (ha : a = none → cap = 0) (w : World) :
    Calls Try.prog 3 #[.slice a 0 cap, .int .i64 v] w fun e w' => e = .returned (.bool true) ∧ w.Since w.heap.size w' := by
  cases a with
  | none =>
    obtain rfl := ha rfl
    clear ha
    go_enter Try.func3, Try.ntmps3
    go_wp2_with (first | (go_at_call 5; refine (bytes_in _ _ _ _ (by omega) _).mono ?_; rintro e w' ⟨rfl, rfl⟩) | (go_at_call 6; refine (clone_nil _).mono ?_; rintro e w' ⟨rfl, rfl⟩))
    go_loopg [6, 7] 0 (fun _ i j wr => w = wr ∧ i = .int .i64 0 ∧ j = .int .i64 (-1))
    case atStart => exact ⟨rfl, rfl, rfl⟩
    case round =>
      obtain ⟨rfl, rfl, rfl⟩ := hrel
      go_wp2
      go_loopg [9] 0 (fun _ k wr => w = wr ∧ k = .int .i64 0)
      case atStart => exact ⟨rfl, rfl⟩
      case round =>
        obtain ⟨rfl, rfl⟩ := hrel
        go_wp2
        go_ret
        exact ⟨rfl, World.Since.refl _ _⟩
  | some x =>
    clear ha
    have hx : ∀ (w : World), 0 < 0 → ∃ b off, x = ⟨b, off, none⟩ ∧ ∀ i, i < 0 → w.cell? ⟨b, off + i, none⟩ = some (.int .i64 ((fun _ => 0) i)) := fun _ h => absurd h (Nat.lt_irrefl 0)
    go_enter Try.func3, Try.ntmps3
    go_wp2_with fail
    refine (bytes_in _ _ _ _ (by omega) _).mono ?_
    rintro e w1 ⟨rfl, rfl⟩
    go_wp2_with fail
    refine (clone_some x 0 cap (fun _ => 0) (by omega) _ (hx _)).mono ?_
    rintro e w2 ⟨rfl, h2⟩
    go_wp2_with fail
    refine (clone_some _ 0 0 (fun _ => 0) (by omega) _ (fun h => absurd h (Nat.lt_irrefl 0))).mono ?_
    rintro e w3 ⟨rfl, h3⟩
    have hT := turning_start h2 h3
    clear h2 h3 hx
    go_wp2_with fail
    go_loopg [6, 7] 0 (fun _ i j wr => w3 = wr ∧ i = .int .i64 0 ∧ j = .int .i64 (-1))
    case atStart => exact ⟨rfl, rfl, rfl⟩
    case round =>
      obtain ⟨rfl, rfl, rfl⟩ := hrel
      go_wp2
      go_loopg [9] 0 (fun _ k wr => w3 = wr ∧ k = .int .i64 0)
      case atStart => exact ⟨rfl, rfl⟩
      case round =>
        obtain ⟨rfl, rfl⟩ := hrel
        go_wp2
        go_ret
        exact ⟨rfl, hT.since⟩

/-- Too long: true at once. -/
theorem law_long (a : Option Addr) (len cap : Nat) (v : Int) (hl : 131072 < len) (hm : len ≤ 9223372036854775807) (w : World) :
    Calls Try.prog 3 #[.slice a len cap, .int .i64 v] w fun e w' => e = .returned (.bool true) ∧ w.Since w.heap.size w' := by
  by_cases h : 1048576 < len
  · go_enter Try.func3, Try.ntmps3
    go_wp2_with fail
    refine (bytes_out _ _ _ _ h _).mono ?_
    rintro e w1 ⟨rfl, rfl⟩
    go_wp2
    go_ret
    exact ⟨rfl, World.Since.refl _ _⟩
  · go_enter Try.func3, Try.ntmps3
    go_wp2_with fail
    refine (bytes_in _ _ _ _ (by omega) _).mono ?_
    rintro e w1 ⟨rfl, rfl⟩
    go_wp2
    go_ret
    exact ⟨rfl, World.Since.refl _ _⟩

theorem law_some (b off len cap : Nat) (v : Int) (Z : Nat → Int) (h0 : 0 < len) (hl : len ≤ 131072) (w : World)
    (hc : ∀ i, i < len → w.cell? ⟨b, off + i, none⟩ = some (.int .i64 (Z i))) :
    Calls Try.prog 3 #[.slice (some ⟨b, off, none⟩) len cap, .int .i64 v] w fun e w' => e = .returned (.bool true) ∧ w.Since w.heap.size w' := by
  go_enter Try.func3, Try.ntmps3
  go_wp2_with fail
  refine (bytes_in _ _ _ _ (by omega) _).mono ?_
  rintro e w1 ⟨rfl, rfl⟩
  go_wp2_with fail
  refine (clone_some _ len cap Z hl _ (fun _ => ⟨b, off, rfl, hc⟩)).mono ?_
  rintro e w2 ⟨rfl, h2⟩
  clear hc
  have hc2 : ∀ i, i < len → w2.cell? ⟨w.heap.size, 0 + i, none⟩ = some (.int .i64 (Z i)) := fun i hi => by
    rw [Nat.zero_add, h2.row.cell hi]
    exact congrArg some (if_pos hi)
  go_wp2_with fail
  refine (clone_some _ len len Z hl _ (fun _ => ⟨w.heap.size, 0, rfl, hc2⟩)).mono ?_
  rintro e w3 ⟨rfl, h3⟩
  have hT0 := turning_start h2 h3
  have hne : w2.heap.size ≠ w.heap.size := by rw [h2.size]; omega
  clear hc2 h2 h3
  generalize w2.heap.size = O at hT0 hne ⊢
  go_wp2_with fail
  go_loopg [6, 7] len (fun g i j wr => ∃ k : Nat, 2 * k ≤ len ∧ g = len - k ∧ i = .int .i64 k ∧ j = .int .i64 ((len : Int) - 1 - k) ∧ Turning w wr w.heap.size O len k Z)
  case atStart => exact ⟨0, Nat.zero_le _, rfl, rfl, by go_num, hT0⟩
  case round =>
    obtain ⟨k, hk, rfl, rfl, rfl, hT⟩ := hrel
    clear hT0
    by_cases hlt : 2 * k + 1 < len
    · have hlt' : (k : Int) < (len : Int) - 1 - k := by omega
      have ej : ((len : Int) - 1 - k) = ((len - 1 - k : Nat) : Int) := by omega
      go_wp2_with fail
      rw [ej]
      refine (zzSwap_any w.heap.size len k (len - 1 - k) v _ (by omega) (by omega) hl _ hT.nodes).mono ?_
      rintro e w4 ⟨rfl, hr, hg⟩
      have hT' := turning_step hT (Nat.le_refl _) hne hlt hr hg
      clear hr hg hT
      go_wp2
      go_roundg (len - (k + 1))
      case measure => omega
      case rel => exact ⟨k + 1, by omega, rfl, by go_num, by go_num, hT'⟩
    · have hlt' : ¬ (k : Int) < (len : Int) - 1 - k := by omega
      go_wp2
      go_loopg [9] len (fun g i wr => ∃ m : Nat, m ≤ len ∧ g = len - m ∧ i = .int .i64 m ∧ Turning w wr w.heap.size O len k Z)
      case atStart => exact ⟨0, Nat.zero_le _, rfl, rfl, hT⟩
      case round =>
        obtain ⟨m, hm, rfl, rfl, hT2⟩ := hrel
        clear hT
        by_cases hml : m < len
        · have c1 : wr.cell? ⟨w.heap.size, m, none⟩ = some (.int .i64 (Z (len - 1 - m))) := by rw [hT2.nodes.cell hml, revTo_end Z len k m (by omega) hml]
          have c2 : wr.cell? ⟨O, len - 1 - m, none⟩ = some (.int .i64 (Z (len - 1 - m))) := hT2.orig.cell (by omega)
          generalize Z (len - 1 - m) = z at c1 c2
          have l1 : (m : Int) < (len : Int) := by omega
          have l2 : (len : Int) - 1 - m < (len : Int) := by omega
          have l3 : (0 : Int) ≤ (len : Int) - 1 - m := by omega
          have e2 : ((len : Int) - 1 - m).toNat = len - 1 - m := by omega
          go_wp2_with fail
          go_quiet (fail)
          go_wp2
          go_roundg (len - (m + 1))
          case measure => omega
          case rel => exact ⟨m + 1, by omega, rfl, by go_num, turning_drewN hT2 _⟩
        · go_wp2
          go_ret
          exact ⟨rfl, hT2.since⟩

end Go.Proofs.Qxb6616715a
