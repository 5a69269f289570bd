/-
  THE WALK OF THE LAW ITSELF (3), seat b6616799a.
-/
import Derived.Test.Qxb6616799aIdx
import Derived.Test.Qxb6616799aBack
import Derived.Test.Qxb6616799aSmall
import Derived.Deep.DeepCutAuto
namespace Go.Proofs.Qxb6616799a
open Go.RowKit Plain

/-- The lengths of the first k rows, together. -/
def sumL (L : Nat → Nat) : Nat → Nat
  | 0 => 0
  | k + 1 => sumL L k + L k
theorem sumL_le (L : Nat → Nat) {r n : Nat} (h : r < n) : L r ≤ sumL L n := by
  induction n with
  | zero => omega
  | succ n ih =>
    show L r ≤ sumL L n + L n
    by_cases e : r = n
    · rw [e]; omega
    · have := ih (by omega); omega
theorem edges_sum (L : Nat → Nat) (Z : Nat → Nat → Nat) (tx : Nat) : ∀ n, (edgesTo (adjOf L Z) tx n).length ≤ sumL L n
  | 0 => Nat.le_refl _
  | n + 1 => by
    have := edges_sum L Z tx n
    show (edgesTo (adjOf L Z) tx n ++ _).length ≤ sumL L n + L n
    rw [List.length_append]
    by_cases e : n = tx
    · rw [if_pos e]; simp; omega
    · rw [if_neg e, List.length_map, show (adjOf L Z n).length = L n from lst_length _ _]
      omega

/-- The rows' addresses taken apart. -/
def blkOf : Option Addr → Nat
  | some a => a.block
  | none => 0
def offOf : Option Addr → Nat
  | some a => a.off
  | none => 0
/-- All numbers are in range: the graph. -/
theorem GRaw.graph {w : World} {gb go n : Nat} {A : Nat → Option Addr} {L C : Nat → Nat} {Y : Nat → Nat → Int} (h : GRaw w (some ⟨gb, go, none⟩) n A L C Y) (hr : ∀ r, r < n → ∀ c, c < L r → 0 ≤ Y r c ∧ Y r c < n) :
    GIn w gb go n A L C (fun r => blkOf (A r)) (fun r => offOf (A r)) (fun r c => (Y r c).toNat) := by
  refine ⟨fun r hrn => ?_, fun r hrn c hc => ?_, fun r c hrn hc => ?_⟩
  · obtain ⟨gb', go', he, hc⟩ := h.top (by omega)
    simp only [Option.some.injEq, Addr.mk.injEq] at he
    obtain ⟨rfl, rfl, _⟩ := he
    exact hc r hrn
  · obtain ⟨b, off, he, hcell⟩ := h.rows r hrn (by omega)
    have h1 := hr r hrn c hc
    rw [he]
    refine ⟨rfl, ?_⟩
    show w.cell? ⟨b, off + c, none⟩ = _
    rw [hcell c hc, Int.toNat_of_nonneg h1.1]
  · have h1 := hr r hrn c hc
    omega
theorem RIn.nats {w : World} {a : Option Addr} {m n : Nat} {Y : Nat → Int} (h : RIn w a m Y) (hr : ∀ i, i < m → 0 ≤ Y i ∧ Y i < n) : NIn w a m (fun i => (Y i).toNat) := fun h0 => by
  obtain ⟨b, off, he, hc⟩ := h h0
  refine ⟨b, off, he, fun i hi => ?_⟩
  rw [hc i hi, Int.toNat_of_nonneg (hr i hi).1]

theorem GIn.rowIn {w : World} {gb go n : Nat} {A : Nat → Option Addr} {L C RB RO : Nat → Nat} {Z : Nat → Nat → Nat} (h : GIn w gb go n A L C RB RO Z) {x : Nat} (hx : x < n) : NIn w (A x) (L x) (Z x) := fun h0 =>
  ⟨RB x, RO x, (h.cells x hx 0 h0).1, fun i hi => (h.cells x hx i hi).2⟩

/-- What the law must leave. -/
def LawPost (w : World) (e : Ending) (w' : World) : Prop := e = .returned (.bool true) ∧ w.Since w.heap.size w'

theorem Try.size3 : (Try.prog.info? 3).map (·.size) = some 1 := by kernel_rfl

set_option maxHeartbeats 8000000 in
set_option maxRecDepth 1000000 in
theorem law_walk (ga : Option Addr) (n nc : Nat) (A : Nat → Option Addr) (L C : Nat → Nat) (Y : Nat → Nat → Int) (t : Int) (ba : Option Addr) (m bc : Nat) (YB : Nat → Int) (w : World)
    (hG : GRaw w ga n A L C Y) (hB : RIn w ba m YB) :
    Calls Try.prog 3 #[.slice ga n nc, .int .i64 t, .slice ba m bc] w (LawPost w) := by
  have q23 : ∀ (w : World) (a : Option Addr) (n c n' c' : Nat), (binOp .eql 23 (.slice a n c) (.slice none n' c')).run Try.prog w = .ok (.bool a.isNone) w := fun w a n c n' c' => Lib.run_eql_slice_nil w _ _ a n c n' c' Try.underlying23
  have q23n : ∀ (w : World) (a : Option Addr) (n c n' c' : Nat), (binOp .neq 23 (.slice a n c) (.slice none n' c')).run Try.prog w = .ok (.bool (!a.isNone)) w := fun w a n c n' c' => run_neq_slice_nil_any w _ _ a n c n' c' Try.underlying23
  go_enter Try.func3, Try.ntmps3
  go_wp2_with fail
  refine (bytes_walk ga n nc A L C Y t ba m bc w hG).mono ?_
  rintro e w' ⟨b, rfl, rfl, hb⟩
  cases b with
  | false =>
    go_wp2
    go_ret
    exact ⟨rfl, World.Since.refl _ _⟩
  | true =>
  obtain ⟨hn20, hL20, hm20⟩ := hb rfl
  clear hb
  by_cases hn13 : 4096 < n
  · go_wp2
    go_ret
    exact ⟨rfl, World.Since.refl _ _⟩
  have hn12 : n ≤ 4096 := by omega
  by_cases hm17 : 65536 < m
  · go_wp2
    go_ret
    exact ⟨rfl, World.Since.refl _ _⟩
  have hm16 : m ≤ 65536 := by omega
  clear hn13 hm17
  -- the blockers, copied if they are not nil: both ways meet again
  go_upto_if 32 with (fail)
  go_cut [2] (fun s2 wc => ∃ (ba' : Option Addr) (bc' : Nat), s2 = .slice ba' m bc' ∧ RIn wc ba' m YB ∧ w.Since w.heap.size wc)
  case first =>
    cases ba with
    | none =>
      go_wp2
      go_meet
      case rel => exact ⟨none, bc, rfl, hB, World.Since.refl _ _⟩
    | some x =>
      have hmk := run_make_row' (P := Try.prog) 23 3 (.int .i64 0) 8 Try.underlying23 Try.info3 rfl .i64 .i64 m (by omega) (by omega)
      have hrow := World.rowIs_made w (.int .i64 0) m 3
      have hs1 : w.Since w.heap.size (w.alloc (.cells (madeCells #[.int .i64 0] m) 3)) := (World.Since.refl w.heap.size w).alloc (Nat.le_refl _) _
      have hBa := hB.since (Nat.le_refl _) hs1
      obtain ⟨w2, hcp, hrow2, hg2⟩ := run_copy_fresh 3 Try.size3 w.heap.size m (some x) bc (fun _ => .int .i64 0) YB hrow hBa
      have hs2 : w.Since w.heap.size w2 := hs1.grown hg2 (by simp) (fun k hk => by cases hk; exact Nat.le_refl _)
      go_wp2
      go_meet
      case rel => exact ⟨some ⟨w.heap.size, 0, none⟩, m, rfl, fun _ => ⟨w.heap.size, 0, rfl, fun i hi => by rw [Nat.zero_add]; exact hrow2.cell hi⟩, hs2⟩
  case rest =>
  obtain ⟨ba', bc', rfl, hB2, hs2⟩ := hcut
  obtain ⟨w2, rfl⟩ : ∃ w2, w2 = wc := ⟨_, rfl⟩
  clear hB q23n
  have hG2 := hG.since (Nat.le_refl _) hs2
  clear hG
  go_wp2
  -- LOOP 1: the total
  go_loopg [8, 9] n (fun g st si wr => w2 = wr ∧ ∃ k : Nat, k ≤ n ∧ g = n - k ∧ si = .int .i64 k ∧ st = .int .i64 ((8 * m + 8 * n + 8 * sumL L k : Nat) : Int) ∧ (0 < k → 8 * m + 8 * n + 8 * sumL L k ≤ 1048576))
  case atStart => exact ⟨rfl, 0, Nat.zero_le _, rfl, rfl, by simp [sumL], fun h => absurd h (Nat.lt_irrefl _)⟩
  obtain ⟨rfl, k, hk, rfl, rfl, rfl, hsum⟩ := hrel
  by_cases hkn : k < n
  · obtain ⟨gb, go, rfl, hrow⟩ := hG2.top (by omega)
    have g0 := hrow k hkn
    have k1 : (k : Int) < (n : Int) := by omega
    have hLk := hL20 k hkn
    have hsk : sumL L k ≤ 131072 := by
      by_cases h0 : 0 < k
      · have := hsum h0; omega
      · obtain rfl : k = 0 := by omega
        exact Nat.zero_le _
    have hstep : sumL L (k + 1) = sumL L k + L k := rfl
    have Hst : Hid (sumL L (k + 1) = sumL L k + L k) := hstep
    clear hrow hstep hsum
    by_cases hbig : 8 * m + 8 * n + 8 * (sumL L k + L k) ≤ 1048576
    · go_wp2
      go_roundg (n - (k + 1))
      case measure => omega
      case rel => exact ⟨rfl, k + 1, by omega, rfl, by go_num, by rw [Hst.out]; go_num, fun _ => by rw [Hst.out]; exact hbig⟩
    · go_wp2
      go_ret
      exact ⟨rfl, hs2⟩
  obtain rfl : k = n := by omega
  clear hkn
  by_cases ht0 : t < 0
  · go_wp2
    go_ret
    exact ⟨rfl, hs2⟩
  by_cases htn : (k : Int) ≤ t
  · go_wp2
    go_ret
    exact ⟨rfl, hs2⟩
  obtain ⟨tx, rfl⟩ := Int.eq_ofNat_of_zero_le (show 0 ≤ t by omega)
  have htx : tx < k := by omega
  have hsm := hsum (by omega)
  clear hsum ht0
  go_wp2_with fail
  refine (inRange_walk ba' m bc' YB k w2 hB2 hm20).mono ?_
  rintro e w' ⟨b, rfl, rfl, hbr⟩
  cases b with
  | false =>
    go_wp2
    go_ret
    exact ⟨rfl, hs2⟩
  | true =>
  have hBr := hbr rfl
  clear hbr
  go_wp2
  -- LOOP 2: the rows are in range
  go_loopg [11] k (fun g si wr => w2 = wr ∧ ∃ r : Nat, r ≤ k ∧ g = k - r ∧ si = .int .i64 r ∧ ∀ q, q < r → ∀ c, c < L q → 0 ≤ Y q c ∧ Y q c < k)
  case atStart => exact ⟨rfl, 0, Nat.zero_le _, rfl, rfl, fun q hq => absurd hq (Nat.not_lt_zero _)⟩
  obtain ⟨rfl, r, hr, rfl, rfl, hY⟩ := hrel
  obtain ⟨gb, go, rfl, hrow⟩ := hG2.top (by omega)
  by_cases hrk : r < k
  · have g0 := hrow r hrk
    have r1 : (r : Int) < (k : Int) := by omega
    have HY : Hid (∀ q, q < r → ∀ c, c < L q → 0 ≤ Y q c ∧ Y q c < k) := hY
    have HB : Hid (∀ i, i < m → 0 ≤ YB i ∧ YB i < k) := hBr
    clear hrow hY hBr
    go_wp2_with fail
    refine (inRange_walk (A r) (L r) (C r) (Y r) k w2 (hG2.rows r hrk) (hL20 r hrk)).mono ?_
    rintro e w' ⟨b, rfl, rfl, hbr⟩
    cases b with
    | false =>
      go_wp2
      go_ret
      exact ⟨rfl, hs2⟩
    | true =>
      have Hr : Hid (∀ c, c < L r → 0 ≤ Y r c ∧ Y r c < k) := hbr rfl
      clear hbr
      go_wp2
      go_roundg (k - (r + 1))
      case measure => omega
      case rel => exact ⟨rfl, r + 1, by omega, rfl, by go_num, fun q hq => by
        by_cases e : q = r
        · rw [e]; exact Hr.out
        · exact HY.out q (by omega)⟩
  obtain rfl : r = k := by omega
  have hGI := hG2.graph hY
  have hNI := hB2.nats hBr
  have hBlt : ∀ i, i < m → (fun i => (YB i).toNat) i < r := fun i hi => by have := hBr i hi; show (YB i).toNat < r; omega
  have hL17 : ∀ q, q < r → L q ≤ 131072 := fun q hq => by have := sumL_le L hq; omega
  have hEd : (edgesTo (adjOf L (fun q c => (Y q c).toNat)) tx r).length ≤ 131072 := Nat.le_trans (edges_sum _ _ _ _) (by omega)
  clear hrow hY hBr hG2 hB2 hrk
  generalize (fun i => (YB i).toNat) = Bn at hNI hBlt
  generalize (fun q c => (Y q c).toNat) = Z at hGI hEd
  generalize (fun q => blkOf (A q)) = RB at hGI
  generalize (fun q => offOf (A q)) = RO at hGI
  go_wp2_with fail
  refine (idx_walk gb go r nc tx A L C RB RO Z ba' m bc' Bn w2 hGI hNI hBlt htx hn12 (by omega) hL17).mono ?_
  rintro e w3 ⟨hs3, hres⟩
  have hG3 := hGI.since (Nat.le_refl _) hs3
  have hN3 := hNI.since (Nat.le_refl _) hs3
  rcases hres with ⟨rfl, hmin⟩ | ⟨l, ob, rfl, hl0, hln, hed, hcl, hmin, hob, hO⟩
  · go_wp2_with fail
    refine (back_walk gb go r nc tx A L C RB RO Z ba' m bc' Bn w3 hG3 hN3 hBlt htx hn12 (by omega) hL17 hEd).mono ?_
    rintro e w4 ⟨o, rfl, hmin2, hs4⟩
    obtain rfl : none = o := hmin.same hmin2
    have hb0 : bEnc none = -1 := rfl
    rw [hb0]
    go_wp2
    go_ret
    exact ⟨rfl, Since_then (Since_then hs2 hs3 hs2.size) hs4 (Nat.le_trans hs2.size hs3.size)⟩
  · go_wp2_with fail
    refine (back_walk gb go r nc tx A L C RB RO Z ba' m bc' Bn w3 hG3 hN3 hBlt htx hn12 (by omega) hL17 hEd).mono ?_
    rintro e w4 ⟨o, rfl, hmin2, hs4⟩
    obtain rfl : some (l.length - 1) = o := hmin.same hmin2
    have hb0 : bEnc (some (l.length - 1)) = (l.length : Int) := by show ((l.length - 1 : Nat) : Int) + 1 = _; omega
    rw [hb0]
    have hsf : w.Since w.heap.size w4 := Since_then (Since_then hs2 hs3 hs2.size) hs4 (Nat.le_trans hs2.size hs3.size)
    have hG4 := hG3.since (Nat.le_refl _) hs4
    have hN4 := hN3.since (Nat.le_refl _) hs4
    have hO4 : Irow w4 ob l.length (fun i => ((l.getD (l.length - 1 - i) 0 : Nat) : Int)) := World.rowIs.of_block hO (hs4.block _ hO.lt)
    have hlast := hed.last
    have c0 : w4.cell? ⟨ob, 0, none⟩ = some (.int .i64 (tx : Int)) := by
      have := hO4.cell hl0
      rw [Nat.sub_zero, hlast] at this
      exact this
    have l0 : (0 : Int) < (l.length : Int) := by omega
    have hGlt := hG4.lt
    clear hGI hNI hG3 hN3 hO hb0 hmin hmin2 hs4 hs3 q23
    go_wp2
    clear c0
    -- LOOP 3: every wait of the cycle is a wait
    go_loopg [14] l.length (fun g si wr => w4 = wr ∧ ∃ p : Nat, p ≤ l.length ∧ g = l.length - p ∧ si = .int .i64 p)
    case atStart => exact ⟨rfl, 0, Nat.zero_le _, rfl, rfl⟩
    obtain ⟨rfl, p, hp, rfl, rfl⟩ := hrel
    by_cases hpl : p < l.length
    · have p1 : (p : Int) < (l.length : Int) := by omega
      have cx := hO4.cell hpl
      have hxn := hed.bound htx (out_lt hGlt hBlt) (l.length - 1 - p) (by omega)
      obtain ⟨x, hx⟩ : ∃ x, l.getD (l.length - 1 - p) 0 = x := ⟨_, rfl⟩
      rw [hx] at cx hxn
      have x1 : (x : Int) < (r : Int) := by omega
      by_cases hnx : p + 1 < l.length
      · have p2 : (p : Int) + 1 < (l.length : Int) := by omega
        have cy := hO4.cell hnx
        have hyo := hed.wait (l.length - 1 - (p + 1)) (by omega)
        rw [show l.length - 1 - (p + 1) + 1 = l.length - 1 - p by omega, hx] at hyo
        obtain ⟨y, hy⟩ : ∃ y, l.getD (l.length - 1 - (p + 1)) 0 = y := ⟨_, rfl⟩
        rw [hy] at cy hyo
        clear hx hy
        by_cases hxt : x = tx
        · have hb : ((x : Int) != (tx : Int)) = false := by simp; omega
          have hmem : y ∈ lst m Bn := by
            unfold out at hyo
            rwa [if_pos hxt] at hyo
          clear hyo hxt
          go_wp2_with fail
          refine (contains_walk ba' m bc' Bn y w4 hN4 (by omega) hmem).mono ?_
          rintro e w' ⟨rfl, rfl⟩
          go_wp2
          go_roundg (l.length - (p + 1))
          case measure => omega
          case rel => exact ⟨rfl, p + 1, by omega, rfl, by go_num⟩
        · have hb : ((x : Int) != (tx : Int)) = true := by simp; omega
          have hmem : y ∈ lst (L x) (Z x) := by
            unfold out at hyo
            rwa [if_neg hxt] at hyo
          have ca := hG4.row x hxn
          have hLx := hL17 x hxn
          clear hyo hxt
          go_wp2_with fail
          refine (contains_walk (A x) (L x) (C x) (Z x) y w4 (hG4.rowIn hxn) (by omega) hmem).mono ?_
          rintro e w' ⟨rfl, rfl⟩
          go_wp2
          go_roundg (l.length - (p + 1))
          case measure => omega
          case rel => exact ⟨rfl, p + 1, by omega, rfl, by go_num⟩
      · have p2 : ¬ (p : Int) + 1 < (l.length : Int) := by omega
        have hyo : tx ∈ out (adjOf L Z) tx (lst m Bn) x := by
          have hx0 : l.getD 0 0 = x := by rw [← hx, show l.length - 1 - p = 0 by omega]
          rw [← hx0]
          exact hcl
        clear hx
        by_cases hxt : x = tx
        · have hb : ((x : Int) != (tx : Int)) = false := by simp; omega
          have hmem : tx ∈ lst m Bn := by
            unfold out at hyo
            rwa [if_pos hxt] at hyo
          clear hyo hxt
          go_wp2_with fail
          refine (contains_walk ba' m bc' Bn tx w4 hN4 (by omega) hmem).mono ?_
          rintro e w' ⟨rfl, rfl⟩
          go_wp2
          go_roundg (l.length - (p + 1))
          case measure => omega
          case rel => exact ⟨rfl, p + 1, by omega, rfl, by go_num⟩
        · have hb : ((x : Int) != (tx : Int)) = true := by simp; omega
          have hmem : tx ∈ lst (L x) (Z x) := by
            unfold out at hyo
            rwa [if_neg hxt] at hyo
          have ca := hG4.row x hxn
          have hLx := hL17 x hxn
          clear hyo hxt
          go_wp2_with fail
          refine (contains_walk (A x) (L x) (C x) (Z x) tx w4 (hG4.rowIn hxn) (by omega) hmem).mono ?_
          rintro e w' ⟨rfl, rfl⟩
          go_wp2
          go_roundg (l.length - (p + 1))
          case measure => omega
          case rel => exact ⟨rfl, p + 1, by omega, rfl, by go_num⟩
    · obtain rfl : p = l.length := by omega
      go_wp2
      go_ret
      exact ⟨rfl, hsf⟩

end Go.Proofs.Qxb6616799a
