/-
  THE WALK OF ZZShortestCycleIdx (8), seat b6616799a.
-/
import Derived.Test.Qxb6616799aSrch
namespace Go.Proofs.Qxb6616799a
open Go.RowKit Plain

/-- The block of transaction i, N blocks being there at the call. -/
def Tof (N : Nat) : Nat → Nat := fun i => N + 4 + 2 * i

theorem wrap_u64_nat (k : Nat) (h : k ≤ 131072) : IntKind.u64.wrap ((k : Nat) : Int) = (k : Int) := by
  simp [IntKind.wrap, IntKind.bits, IntKind.signed]
  omega
theorem wrap_i64_nat (k : Nat) (h : k ≤ 131072) : IntKind.i64.wrap ((k : Nat) : Int) = (k : Int) := by
  rw [IntKind.wrap_i64]
  omega

/-- k transactions made. -/
structure Mk (w wr : World) (n k : Nat) (av : Value) : Prop where
  since : w.Since w.heap.size wr
  size : wr.heap.size = w.heap.size + 3 + 2 * k
  adjv : wr.heap[w.heap.size]? = some (.cells #[av] 22 (0, 0))
  tsv : wr.heap[w.heap.size + 2]? = some (.cells #[.slice (some ⟨w.heap.size + 1, 0, none⟩) n n] 35 (0, 0))
  ts : wr.rowIs (w.heap.size + 1) 36 n (fun i => if i < k then tp (Tof w.heap.size) i else .pointer none)
  txns : ∀ i, i < k → wr.heap[Tof w.heap.size i]? = some (.cells (txnCells i) 92 (0, 0))

theorem Mk.start (w : World) (n : Nat) (av : Value) :
    Mk w (((w.alloc (.cells #[av] 22)).alloc (.cells (madeCells #[.pointer none] n) 36)).alloc (.cells #[.slice (some ⟨w.heap.size + 1, 0, none⟩) n n] 35)) n 0 av := by
  have h1 : (w.alloc (.cells #[av] 22)).heap.size = w.heap.size + 1 := by simp
  have hrow := World.rowIs_made (w.alloc (.cells #[av] 22)) (.pointer none) n 36
  rw [h1] at hrow
  refine ⟨(((World.Since.refl _ _).alloc (Nat.le_refl _) _).alloc (by simp) _).alloc (by simp; omega) _, by simp, ?_, ?_, (hrow.alloc _).congr (fun i _ => by simp), fun i hi => absurd hi (Nat.not_lt_zero _)⟩
  · rw [Deep.blk_alloc_lt _ _ _ (by simp; omega), Deep.blk_alloc_lt _ _ _ (by simp), Deep.blk_alloc_new]
  · have := Deep.blk_alloc_new ((w.alloc (.cells #[av] 22)).alloc (.cells (madeCells #[.pointer none] n) 36)) (.cells #[.slice (some ⟨w.heap.size + 1, 0, none⟩) n n] 35)
    rwa [show ((w.alloc (.cells #[av] 22)).alloc (.cells (madeCells #[.pointer none] n) 36)).heap.size = w.heap.size + 2 by simp] at this

theorem Mk.step {w wr : World} {n k : Nat} {av : Value} (h : Mk w wr n k av) :
    Mk w (((wr.alloc (.cells (idCells k) 40)).alloc (.cells (txnCells k) 92)).setCell ⟨w.heap.size + 1, k, none⟩ (.pointer (some ⟨wr.heap.size + 1, 0, none⟩))).drew n (k + 1) av := by
  have hs := h.size
  rw [show wr.heap.size + 1 = w.heap.size + 4 + 2 * k by omega]
  have h2 : ((wr.alloc (.cells (idCells k) 40))).heap.size = w.heap.size + 4 + 2 * k := by simp [hs]; omega
  have old : ∀ b, b < wr.heap.size → b ≠ w.heap.size + 1 → (((wr.alloc (.cells (idCells k) 40)).alloc (.cells (txnCells k) 92)).setCell ⟨w.heap.size + 1, k, none⟩ (.pointer (some ⟨w.heap.size + 4 + 2 * k, 0, none⟩))).heap[b]? = wr.heap[b]? := fun b hb hne => by
    rw [Deep.blk_setCell_other _ _ _ _ hne, Deep.blk_alloc_lt _ _ _ (by simp; omega), Deep.blk_alloc_lt _ _ _ hb]
  refine ⟨(((h.since.alloc h.since.size _).alloc (by simp; omega) _).setCell (by show w.heap.size ≤ w.heap.size + 1; omega) _).drew, by simp [hs]; omega, (old _ (by omega) (by omega)).trans h.adjv, (old _ (by omega) (by omega)).trans h.tsv, (((h.ts.alloc _).alloc _).set k _).drew.congr (fun i _ => ?_), fun i hi => ?_⟩
  · by_cases e : i = k
    · subst e
      rw [if_pos rfl, if_pos (by omega)]
      rfl
    · rw [if_neg e]
      by_cases h3 : i < k
      · rw [if_pos h3, if_pos (by omega)]
      · rw [if_neg h3, if_neg (by omega)]
  · by_cases e : i = k
    · subst e
      show (((wr.alloc (.cells (idCells i) 40)).alloc (.cells (txnCells i) 92)).setCell ⟨w.heap.size + 1, i, none⟩ (.pointer (some ⟨w.heap.size + 4 + 2 * i, 0, none⟩))).heap[w.heap.size + 4 + 2 * i]? = _
      rw [Deep.blk_setCell_other _ _ _ _ (by show w.heap.size + 4 + 2 * i ≠ w.heap.size + 1; omega), ← h2, Deep.blk_alloc_new]
    · exact (old _ (by unfold Tof; omega) (by unfold Tof; omega)).trans (h.txns i (by omega))

/-- All are made: what the closure will capture. -/
theorem Mk.env {w wr : World} {n gb go nc : Nat} {A : Nat → Option Addr} {L C RB RO : Nat → Nat} {Z : Nat → Nat → Nat} (h : Mk w wr n n (.slice (some ⟨gb, go, none⟩) n nc)) (hG : GIn w gb go n A L C RB RO Z) :
    Env wr w.heap.size (w.heap.size + 2) (w.heap.size + 1) gb go n nc A L C RB RO Z (Tof w.heap.size) :=
  ⟨by simp [World.cell?, h.adjv], by simp [World.cell?, h.tsv], h.ts.congr (fun i hi => if_pos hi), hG.since (Nat.le_refl _) h.since, h.txns, fun x y _ _ e => by unfold Tof at e; omega⟩

theorem Since_then {w w1 w2 : World} {B B1 : Nat} (h : w.Since B w1) (h' : w1.Since B1 w2) (hB : B ≤ B1) : w.Since B w2 :=
  h.trans ⟨h'.os, h'.tape, h'.output, h'.size, fun k hk => h'.block k (by omega)⟩

/-- 'bs', j of its cells filled. -/
structure BsTo (w wr : World) (m j : Nat) (T Bn : Nat → Nat) : Prop where
  since : w.Since w.heap.size wr
  row : wr.rowIs w.heap.size 36 m (fun i => if i < j then tp T (Bn i) else .pointer none)
theorem BsTo.start (w : World) (m : Nat) (T Bn : Nat → Nat) : BsTo w (w.alloc (.cells (madeCells #[.pointer none] m) 36)) m 0 T Bn :=
  ⟨(World.Since.refl _ _).alloc (Nat.le_refl _) _, (World.rowIs_made w _ m 36).congr (fun i _ => by simp)⟩
theorem BsTo.step {w wr : World} {m j b : Nat} {T Bn : Nat → Nat} (h : BsTo w wr m j T Bn) (hb : Bn j = b) : BsTo w (wr.setCell ⟨w.heap.size, j, none⟩ (.pointer (some ⟨T b, 0, none⟩))) m (j + 1) T Bn := by
  refine ⟨h.since.setCell (Nat.le_refl _) _, (h.row.set j _).congr (fun i _ => ?_)⟩
  by_cases e : i = j
  · subst e
    rw [if_pos rfl, if_pos (by omega), hb]
  · rw [if_neg e]
    by_cases h3 : i < j
    · rw [if_pos h3, if_pos (by omega)]
    · rw [if_neg h3, if_neg (by omega)]

/-- 'out', j of its cells filled. -/
structure OutTo (w wr : World) (m j : Nat) (f : Nat → Nat) : Prop where
  since : w.Since w.heap.size wr
  row : Irow wr w.heap.size m (fun i => if i < j then (f i : Int) else 0)
theorem OutTo.start (w : World) (m : Nat) (f : Nat → Nat) : OutTo w (w.alloc (.cells (madeCells #[.int .i64 0] m) 3)) m 0 f :=
  ⟨(World.Since.refl _ _).alloc (Nat.le_refl _) _, (Irow.made w m).congr (fun i _ => by simp)⟩
theorem OutTo.step {w wr : World} {m j y : Nat} {f : Nat → Nat} (h : OutTo w wr m j f) (hy : f j = y) (o : Obj) : OutTo w ((wr.alloc o).setCell ⟨w.heap.size, j, none⟩ (.int .i64 (y : Int))) m (j + 1) f := by
  refine ⟨(h.since.alloc h.since.size o).setCell (Nat.le_refl _) _, (h.row.alloc o).set j _ (fun i _ => ?_)⟩
  by_cases e : i = j
  · subst e
    rw [if_pos (by omega), if_pos rfl, hy]
  · rw [if_neg e]
    by_cases h3 : i < j
    · rw [if_pos h3, if_pos (by omega)]
    · rw [if_neg h3, if_neg (by omega)]

set_option maxHeartbeats 4000000 in
set_option maxRecDepth 1000000 in
theorem idx_walk (gb go n nc tx : Nat) (A : Nat → Option Addr) (L C RB RO : Nat → Nat) (Z : Nat → Nat → Nat) (ba : Option Addr) (m bc : Nat) (Bn : Nat → Nat) (w : World)
    (hG : GIn w gb go n A L C RB RO Z) (hB : NIn w ba m Bn) (hBlt : ∀ i, i < m → Bn i < n) (htx : tx < n) (hn : n ≤ 4096) (hm : m ≤ 131072) (hL : ∀ r, r < n → L r ≤ 131072) :
    Calls Try.prog 8 #[.slice (some ⟨gb, go, none⟩) n nc, .int .i64 (tx : Int), .slice ba m bc] w fun e w' =>
      w.Since w.heap.size w' ∧ ((e = .returned (.slice none 0 0) ∧ IsMin (Cyc (adjOf L Z) tx (lst m Bn)) none) ∨
        ∃ l ob, e = .returned (.slice (some ⟨ob, 0, none⟩) l.length l.length) ∧ 0 < l.length ∧ l.length ≤ n ∧ Edges (adjOf L Z) tx (lst m Bn) l ∧ tx ∈ out (adjOf L Z) tx (lst m Bn) (l.getD 0 0) ∧ IsMin (Cyc (adjOf L Z) tx (lst m Bn)) (some (l.length - 1)) ∧ w.heap.size ≤ ob ∧
          Irow w' ob l.length (fun i => ((l.getD (l.length - 1 - i) 0 : Nat) : Int))) := by
  have hmk1 := run_make_row' (P := Try.prog) 35 36 (.pointer none) 8 Try.underlying35 Try.info36 rfl .i64 .i64 n (by omega) (by omega)
  go_enter Try.func8, Try.ntmps8
  go_wp2
  rw [show w.heap.size + 1 + 1 = w.heap.size + 2 from rfl]
  have S0 := Mk.start w n (.slice (some ⟨gb, go, none⟩) n nc)
  clear hmk1
  -- LOOP 1: the transactions
  go_loopg [22] n (fun g i wr => ∃ k : Nat, k ≤ n ∧ g = n - k ∧ i = .int .i64 k ∧ Mk w wr n k (.slice (some ⟨gb, go, none⟩) n nc))
  case atStart => exact ⟨0, Nat.zero_le _, rfl, rfl, S0⟩
  clear S0
  obtain ⟨k, hk, rfl, rfl, hS⟩ := hrel
  by_cases hkn : k < n
  · have c7 : wr.cell? ⟨w.heap.size + 2, 0, none⟩ = some (.slice (some ⟨w.heap.size + 1, 0, none⟩) n n) := by simp [World.cell?, hS.tsv]
    have h7 : w.heap.size + 2 < wr.heap.size := by rw [hS.size]; omega
    have c7' : ∀ o1 o2, ((wr.alloc o1).alloc o2).cell? ⟨w.heap.size + 2, 0, none⟩ = some (.slice (some ⟨w.heap.size + 1, 0, none⟩) n n) := fun o1 o2 => by
      rw [World.cell?_alloc_lt _ _ _ (by simp; omega), World.cell?_alloc_lt _ _ _ h7]; exact c7
    have g1 : ∀ o1 o2, ((wr.alloc o1).alloc o2).cell? ⟨w.heap.size + 1, k, none⟩ = some (.pointer none) := fun o1 o2 => by
      rw [((hS.ts.alloc o1).alloc o2).cell hkn, if_neg (Nat.lt_irrefl _)]
    have g2 : ∀ o1 o2, ((wr.alloc o1).alloc o2).frozen? ⟨w.heap.size + 1, k, none⟩ = false := fun o1 o2 => ((hS.ts.alloc o1).alloc o2).frozen k
    have hS2 := hS.step
    have k1 : (k : Int) < (n : Int) := by omega
    have hwk := wrap_u64_nat k (by omega)
    clear hS h7
    go_wp2_with fail
    go_region_with (go_at_call 17; refine (newTxn_any k _).mono ?_; rintro e w' ⟨rfl, rfl⟩)
    all_goals
      go_wp2
      go_roundg (n - (k + 1))
      case measure => omega
      case rel => exact ⟨k + 1, by omega, rfl, by go_num, hS2⟩
  obtain rfl : k = n := by omega
  obtain ⟨wa, rfl⟩ : ∃ wa, wa = wr := ⟨_, rfl⟩
  have hE := hS.env hG
  have hsw := hS.since
  clear hS hkn
  have hmk2 := run_make_row' (P := Try.prog) 35 36 (.pointer none) 8 Try.underlying35 Try.info36 rfl .i64 .i64 m (by omega) (by omega)
  go_wp2
  clear hmk2
  -- LOOP 2: the blockers
  have B0 : BsTo wa (wa.alloc (.cells (madeCells #[.pointer none] m) 36)) m 0 (Tof w.heap.size) Bn := BsTo.start _ _ _ _
  go_loopg [38] m (fun g i wx => ∃ j : Nat, j ≤ m ∧ g = m - j ∧ i = .int .i64 j ∧ BsTo wa wx m j (Tof w.heap.size) Bn)
  case atStart => exact ⟨0, Nat.zero_le _, rfl, rfl, B0⟩
  clear B0
  obtain ⟨j, hj, rfl, rfl, hS⟩ := hrel
  have hEx := hE.since (Nat.le_refl _) hS.since
  have hsx : w.Since w.heap.size wr := Since_then hsw hS.since hsw.size
  have c7 := hEx.tsv
  by_cases hjm : j < m
  · obtain ⟨bb, bo, rfl, hbc⟩ := (hB.since (Nat.le_refl _) hsx) (by omega)
    have g1 := hbc j hjm
    have hb1 := hBlt j hjm
    obtain ⟨b, hbe⟩ : ∃ b, Bn j = b := ⟨_, rfl⟩
    rw [hbe] at g1 hb1
    have g2 : wr.cell? ⟨w.heap.size + 1, b, none⟩ = some (.pointer (some ⟨Tof w.heap.size b, 0, none⟩)) := hEx.ts.cell hb1
    have g3 := hS.row.cell hjm
    rw [if_neg (Nat.lt_irrefl _)] at g3
    have g4 := hS.row.frozen j
    have hS2 := hS.step hbe
    have j1 : (j : Int) < (m : Int) := by omega
    have b1 : (b : Int) < (k : Int) := by omega
    clear hbc hbe hS
    go_wp2
    go_roundg (m - (j + 1))
    case measure => omega
    case rel => exact ⟨j + 1, by omega, rfl, by go_num, hS2⟩
  obtain rfl : j = m := by omega
  have hBs := hS.row.congr (g := fun i => tp (Tof w.heap.size) (Bn i)) (fun i hi => if_pos hi)
  have g1 : wr.cell? ⟨w.heap.size + 1, tx, none⟩ = some (.pointer (some ⟨Tof w.heap.size tx, 0, none⟩)) := hEx.ts.cell htx
  have t1 : (tx : Int) < (k : Int) := by omega
  have q35 : ∀ (w : World) (a : Option Addr) (n c n' c' : Nat), (binOp .eql 35 (.slice a n c) (.slice none n' c')).run Try.prog w = .ok (.bool a.isNone) w := fun w a n c n' c' => Lib.run_eql_slice_nil w _ _ a n c n' c' Try.underlying35
  clear hjm hS
  go_wp2_with fail
  refine (srch_walk wr w.heap.size (w.heap.size + 2) (w.heap.size + 1) gb go k nc A L C RB RO Z (Tof w.heap.size) tx wa.heap.size j Bn hEx htx hn hL hm hBs hBlt).mono ?_
  rintro e w3 ⟨hs3, hres⟩
  have hsw3 : w.Since w.heap.size w3 := Since_then hsx hs3 hsx.size
  rcases hres with ⟨rfl, hmin⟩ | ⟨l, g, off, cap, rfl, hlc, hl0, hln, hed, hcl, hmin, hgb, hR⟩
  · go_wp2
    go_ret
    exact ⟨hsw3, .inl ⟨rfl, hmin⟩⟩
  have hmk3 := run_make_row' (P := Try.prog) 23 3 (.int .i64 0) 8 Try.underlying23 Try.info3 rfl .i64 .i64 l.length (by omega) (by omega)
  go_wp2
  clear hmk3 q35 c7 g1 t1
  -- LOOP 3: the answer
  have hT3 : Txns w3 (Tof w.heap.size) k := hEx.txns.since (Nat.le_refl _) hs3
  have O0 : OutTo w3 (w3.alloc (.cells (madeCells #[.int .i64 0] l.length) 3)) l.length 0 (fun i => l.getD (l.length - 1 - i) 0) := OutTo.start _ _ _
  go_loopg [66] l.length (fun q i wx => ∃ p : Nat, p ≤ l.length ∧ q = l.length - p ∧ i = .int .i64 p ∧ OutTo w3 wx l.length p (fun i => l.getD (l.length - 1 - i) 0))
  case atStart => exact ⟨0, Nat.zero_le _, rfl, rfl, O0⟩
  clear O0
  obtain ⟨p, hp, rfl, rfl, hS⟩ := hrel
  by_cases hpl : p < l.length
  · have g1 := (hR.block (hS.since.block _ hR.lt)).cell hpl
    obtain ⟨y, hy⟩ : ∃ y, l.getD (l.length - 1 - p) 0 = y := ⟨_, rfl⟩
    have hyn : y < k := by rw [← hy]; exact hed.bound htx (out_lt hG.lt hBlt) _ (by omega)
    rw [hy] at g1
    have hb := (hT3.since (Nat.le_refl _) hS.since).blk y hyn
    have g3 : ∀ o, (wr.alloc o).cell? ⟨w3.heap.size, p, none⟩ = some (.int .i64 0) := fun o => by
      rw [(hS.row.alloc o).cell hpl, if_neg (Nat.lt_irrefl _)]
    have g4 : ∀ o, (wr.alloc o).frozen? ⟨w3.heap.size, p, none⟩ = false := fun o => (hS.row.alloc o).free p
    have hS2 := hS.step (f := fun i => l.getD (l.length - 1 - i) 0) hy (.cells (idCells y) 40)
    have hfl := field_seq (y : Int)
    have hwy := wrap_i64_nat y (by omega)
    have p1 : (p : Int) < (l.length : Int) := by omega
    have hy0 : y ≤ 4096 := by omega
    clear hy hS
    go_wp2_with (go_at_call 19; refine (id_any (Tof w.heap.size y) y _ (by exact hb)).mono ?_; rintro e w' ⟨rfl, rfl⟩)
    go_roundg (l.length - (p + 1))
    case measure => omega
    case rel => exact ⟨p + 1, by omega, rfl, by go_num, hS2⟩
  obtain rfl : p = l.length := by omega
  go_wp2
  go_ret
  exact ⟨Since_then hsw3 hS.since hsw3.size, .inr ⟨l, w3.heap.size, rfl, hl0, hln, hed, hcl, hmin, hsw3.size, hS.row.congr (fun i hi => if_pos hi)⟩⟩

end Go.Proofs.Qxb6616799a
