/-
  THE WALK OF shortestBackToTx (function 9), seat b6616799a.
-/
import Derived.Test.Qxb6616799aBackMem
namespace Go.Proofs.Qxb6616799a
open Go.RowKit Plain

set_option maxHeartbeats 4000000 in
set_option maxRecDepth 1000000 in
theorem back_walk (gb go n nc tx : Nat) (A : Nat → Option Addr) (L C RB RO : Nat → Nat) (Z : Nat → Nat → Nat) (ba : Option Addr) (m bc : Nat) (Bn : Nat → Nat) (w : World)
    (hG : GIn w gb go n A L C RB RO Z) (hB : NIn w ba m Bn) (hBlt : ∀ i, i < m → Bn i < n) (htx : tx < n) (hn : n ≤ 4096) (hm : m ≤ 131072) (hL : ∀ r, r < n → L r ≤ 131072)
    (hE : (edgesTo (adjOf L Z) tx n).length ≤ 131072) :
    Calls Try.prog 9 #[.slice (some ⟨gb, go, none⟩) n nc, .int .i64 (tx : Int), .slice ba m bc] w fun e w' =>
      ∃ o, e = .returned (.int .i64 (bEnc o)) ∧ IsMin (Cyc (adjOf L Z) tx (lst m Bn)) o ∧ w.Since w.heap.size w' := by
  have hmk1 := run_make_row' (P := Try.prog) 23 3 (.int .i64 0) 8 Try.underlying23 Try.info3 rfl .i64 .i64 (n + 1) (by omega) (by omega)
  have ec : ((n + 1 : Nat) : Int) = (n : Int) + 1 := by omega
  rw [ec] at hmk1
  clear ec
  go_enter Try.func9, Try.ntmps9
  go_wp2
  clear hmk1
  have S0 := St1.made w n
  -- LOOPS 1, 2: the edges are counted
  go_loopg [9] n (fun g i wr => ∃ u : Nat, u ≤ n ∧ g = n - u ∧ i = .int .i64 u ∧ St1 w wr n (cntF (edgesTo (adjOf L Z) tx u)))
  case atStart => exact ⟨0, Nat.zero_le _, rfl, rfl, S0⟩
  obtain ⟨u, hu, rfl, rfl, hS⟩ := hrel
  clear S0
  by_cases hun : u < n
  · by_cases hut : u = tx
    · subst hut
      go_wp2
      go_roundg (n - (u + 1))
      case measure => omega
      case rel => exact ⟨u + 1, by omega, rfl, by go_num, by rw [edgesTo_tx]; exact hS⟩
    · have hutz : ((u : Int) == (tx : Int)) = false := by simp; omega
      go_wp2
      go_loopg [10] (L u) (fun g i wr => ∃ k : Nat, k ≤ L u ∧ g = L u - k ∧ i = .int .i64 k ∧ St1 w wr n (cntF (edgesAt (adjOf L Z) tx u k)))
      case atStart => exact ⟨0, Nat.zero_le _, rfl, rfl, by rw [edgesAt_zero]; exact hS⟩
      case round =>
        obtain ⟨k, hk, rfl, rfl, hS2⟩ := hrel
        clear hS
        have hLu := hL u hun
        have hunz : (u : Int) < (n : Int) := by omega
        have g0 : wr.cell? ⟨gb, go + u, none⟩ = some (.slice (A u) (L u) (C u)) := (hG.since (Nat.le_refl _) hS2.since).row u hun
        by_cases hkL : k < L u
        · obtain ⟨ga, g1⟩ := (hG.since (Nat.le_refl _) hS2.since).cells u hun k hkL
          rw [ga] at g0
          have hz := hG.lt u k hun hkL
          have hk' : k < (adjOf L Z u).length := by rw [adjOf, lst_length]; exact hkL
          have hlen := edges_len (adj := adjOf L Z) (tx := tx) hun hut hk'
          obtain ⟨z, hzz⟩ : ∃ z, Z u k = z := ⟨_, rfl⟩
          rw [hzz] at g1 hz
          obtain ⟨c, hc⟩ : ∃ c, cntF (edgesAt (adjOf L Z) tx u k) (z + 1) = c := ⟨_, rfl⟩
          have hr := cntF_range (edgesAt (adjOf L Z) tx u k) (z + 1)
          have g2 : wr.cell? ⟨w.heap.size, z + 1, none⟩ = some (.int .i64 c) := by rw [← hc]; exact hS2.start.cell (by omega)
          have g3 : wr.frozen? ⟨w.heap.size, z + 1, none⟩ = false := hS2.start.free _
          rw [hc] at hr
          have hS3 := hS2.count hkL hzz hc
          have c0 : 0 ≤ c := hr.1
          have c1 : c ≤ 131072 := by omega
          clear hr hc hzz hlen hk' hS2 ga
          go_wp2
          go_roundg (L u - (k + 1))
          case measure => omega
          case rel => exact ⟨k + 1, by omega, rfl, by go_num, hS3⟩
        · obtain rfl : k = L u := by omega
          go_wp2
          go_roundg (n - (u + 1))
          case measure => omega
          case rel => exact ⟨u + 1, by omega, rfl, by go_num, by rw [← edgesAt_full hut, adjOf, lst_length]; exact hS2⟩
  obtain rfl : u = n := by omega
  go_wp2
  -- LOOP 3: the sums
  obtain ⟨E, hEd⟩ : ∃ E, E = edgesTo (adjOf L Z) tx u := ⟨_, rfl⟩
  have hpt : pre E u = E.length := by rw [hEd]; exact pre_total _ (edges_lt hG.lt)
  have hEl : E.length ≤ 131072 := by rw [hEd]; exact hE
  have hpb : ∀ j, j ≤ u → pre E j ≤ 131072 := fun j hj => by have := pre_mono E hj; omega
  have hS1 : St1 w wr u (preF E 0) := ⟨hS.since, hS.size, hS.start.congr (fun j _ => by rw [preF_zero, hEd])⟩
  have HE : Hid (E = edgesTo (adjOf L Z) tx u) := hEd
  have HP : Hid (pre E u = E.length) := hpt
  clear hS hEd hpt hE hun
  go_loopg [11] u (fun g i wr => ∃ k : Nat, k ≤ u ∧ g = u - k ∧ i = .int .i64 k ∧ St1 w wr u (preF E k))
  case atStart => exact ⟨0, Nat.zero_le _, rfl, rfl, hS1⟩
  obtain ⟨k, hk, rfl, rfl, hS⟩ := hrel
  clear hS1
  by_cases hkn : k < u
  · have g1 : wr.cell? ⟨w.heap.size, k + 1, none⟩ = some (.int .i64 ((srcs E k).length : Int)) := by rw [hS.start.cell (by omega), preF_next]
    have g2 : wr.cell? ⟨w.heap.size, k, none⟩ = some (.int .i64 (pre E k : Int)) := by rw [hS.start.cell (by omega), preF_here]
    have g3 : wr.frozen? ⟨w.heap.size, k + 1, none⟩ = false := hS.start.free _
    have hS2 := (hS.set (k + 1) _ (fun j _ => preF_step E k j)).drew
    have b1 : pre E (k + 1) ≤ 131072 := hpb _ (by omega)
    have b2 : pre E (k + 1) = pre E k + (srcs E k).length := rfl
    have b3 : pre E k ≤ 131072 := by omega
    have b4 : (srcs E k).length ≤ 131072 := by omega
    have l1 : (k : Int) + 1 < (u : Int) + 1 := by omega
    have l2 : (k : Int) < (u : Int) + 1 := by omega
    clear b1 b2
    generalize (srcs E k).length = c at g1 hS2 b4
    generalize pre E k = p at g2 hS2 b3
    go_wp2
    go_region
    go_wp2
    go_roundg (u - (k + 1))
    case measure => omega
    case rel => exact ⟨k + 1, by omega, rfl, by go_num, hS2⟩
  obtain rfl : k = u := by omega
  -- LOOP 4: 'fill'
  have hmk2 := run_make_row' (P := Try.prog) 23 3 (.int .i64 0) 8 Try.underlying23 Try.info3 rfl .i64 .i64 k (by omega) (by omega)
  have sz1 := hS.size
  go_wp2
  clear hmk2
  have hS1 := St2.made hS
  clear hS sz1 hkn
  go_loopg [13] k (fun g i wr => ∃ j : Nat, j ≤ k ∧ g = k - j ∧ i = .int .i64 j ∧ St2 w wr k E (fillF E j))
  case atStart => exact ⟨0, Nat.zero_le _, rfl, rfl, hS1⟩
  obtain ⟨j, hj, rfl, rfl, hS⟩ := hrel
  clear hS1
  by_cases hjn : j < k
  · have g1 : wr.cell? ⟨w.heap.size, j, none⟩ = some (.int .i64 (pre E j : Int)) := hS.start.cell (by omega)
    have g2 : wr.cell? ⟨w.heap.size + 1, j, none⟩ = some (.int .i64 (fillF E j j)) := hS.fill.cell (by omega)
    have g3 : wr.frozen? ⟨w.heap.size + 1, j, none⟩ = false := hS.fill.free _
    have hS2 := hS.step
    go_wp2
    go_roundg (k - (j + 1))
    case measure => omega
    case rel => exact ⟨j + 1, by omega, rfl, by go_num, hS2⟩
  obtain rfl : j = k := by omega
  -- LOOPS 5, 6: 'rev'
  have hb0 := hpb j (Nat.le_refl _)
  have hmk3 := run_make_row' (P := Try.prog) 23 3 (.int .i64 0) 8 Try.underlying23 Try.info3 rfl .i64 .i64 (pre E j) (by omega) (by omega)
  have sz2 := hS.size
  have g1 : wr.cell? ⟨w.heap.size, j, none⟩ = some (.int .i64 (pre E j : Int)) := hS.start.cell (by omega)
  have hS1 := St3.made hS
  go_wp2
  clear hmk3 hS sz2 hjn g1
  go_loopg [15] j (fun g i wr => ∃ u : Nat, u ≤ j ∧ g = j - u ∧ i = .int .i64 u ∧ St3 w wr j E (edgesTo (adjOf L Z) tx u))
  case atStart => exact ⟨0, Nat.zero_le _, rfl, rfl, hS1⟩
  obtain ⟨u, hu, rfl, rfl, hS⟩ := hrel
  clear hS1
  by_cases hun : u < j
  · by_cases hut : u = tx
    · subst hut
      go_wp2
      go_roundg (j - (u + 1))
      case measure => omega
      case rel => exact ⟨u + 1, by omega, rfl, by go_num, by rw [edgesTo_tx]; exact hS⟩
    · have hutz : ((u : Int) == (tx : Int)) = false := by simp; omega
      go_wp2
      go_loopg [16] (L u) (fun g i wr => ∃ k : Nat, k ≤ L u ∧ g = L u - k ∧ i = .int .i64 k ∧ St3 w wr j E (edgesAt (adjOf L Z) tx u k))
      case atStart => exact ⟨0, Nat.zero_le _, rfl, rfl, by rw [edgesAt_zero]; exact hS⟩
      case round =>
        obtain ⟨k, hk, rfl, rfl, hS2⟩ := hrel
        clear hS
        have hLu := hL u hun
        have hunz : (u : Int) < (j : Int) := by omega
        have g0 : wr.cell? ⟨gb, go + u, none⟩ = some (.slice (A u) (L u) (C u)) := (hG.since (Nat.le_refl _) hS2.since).row u hun
        by_cases hkL : k < L u
        · obtain ⟨ga, g1⟩ := (hG.since (Nat.le_refl _) hS2.since).cells u hun k hkL
          rw [ga] at g0
          have hz := hG.lt u k hun hkL
          have hk' : k < (adjOf L Z u).length := by rw [adjOf, lst_length]; exact hkL
          obtain ⟨r, hrest⟩ := edgesAt_rest (adj := adjOf L Z) (tx := tx) hun hut hk'
          rw [← HE.out, show (adjOf L Z u)[k] = Z u k from lst_get _ _ k hkL] at hrest
          have hnext : edgesAt (adjOf L Z) tx u (k + 1) = edgesAt (adjOf L Z) tx u k ++ [(u, Z u k)] := by rw [edgesAt_succ hk', show (adjOf L Z u)[k] = Z u k from lst_get _ _ k hkL]
          obtain ⟨p, hp⟩ : ∃ p, pre E (Z u k) + (srcs (edgesAt (adjOf L Z) tx u k) (Z u k)).length = p := ⟨_, rfl⟩
          have hpl : p < pre E j := by rw [← hp]; exact place_lt hrest hz
          obtain ⟨rv, hfl, hrv⟩ := hS2.rev
          have g2 : wr.cell? ⟨w.heap.size + 1, Z u k, none⟩ = some (.int .i64 (p : Int)) := by rw [hS2.fill.cell hz, hp]
          have g3 : wr.frozen? ⟨w.heap.size + 1, Z u k, none⟩ = false := hS2.fill.free _
          have g4 : wr.cell? ⟨w.heap.size + 2, p, none⟩ = some (.int .i64 (rv p : Int)) := hrv.cell hpl
          have g5 : wr.frozen? ⟨w.heap.size + 2, p, none⟩ = false := hrv.free _
          have hS3 := hS2.step hrest hp
          rw [← hnext] at hS3
          clear hp hrest hnext hfl hrv hS2 ga hk'
          generalize Z u k = z at g1 hz g2 g3 hS3
          have p1 : (p : Int) < (pre E j : Int) := by omega
          have z1 : (z : Int) < (j : Int) := by omega
          have p2 : p ≤ 131072 := by omega
          go_wp2
          go_roundg (L u - (k + 1))
          case measure => omega
          case rel => exact ⟨k + 1, by omega, rfl, by go_num, hS3⟩
        · obtain rfl : k = L u := by omega
          go_wp2
          go_roundg (j - (u + 1))
          case measure => omega
          case rel => exact ⟨u + 1, by omega, rfl, by go_num, by rw [← edgesAt_full hut, adjOf, lst_length]; exact hS2⟩
  obtain rfl : u = j := by omega
  rw [← HE.out] at hS
  -- LOOP 7: 'dist'
  have hmk4 := run_make_row' (P := Try.prog) 23 3 (.int .i64 0) 8 Try.underlying23 Try.info3 rfl .i64 .i64 u (by omega) (by omega)
  have sz3 := hS.size
  go_wp2
  have hS1 := St4.made hS
  have sz4 : (wr.alloc (.cells (madeCells #[.int .i64 0] u) 3)).heap.size = w.heap.size + 4 := by simp [sz3]
  clear hmk4 hS sz3 hun
  go_loopg [19] u (fun g i wr => ∃ k : Nat, k ≤ u ∧ g = u - k ∧ i = .int .i64 k ∧ St4 w wr u E (distF k) ∧ wr.heap.size = w.heap.size + 4)
  case atStart => exact ⟨0, Nat.zero_le _, rfl, rfl, hS1, sz4⟩
  clear sz4
  obtain ⟨k, hk, rfl, rfl, hS, sz4⟩ := hrel
  clear hS1
  by_cases hkn : k < u
  · have g1 : wr.cell? ⟨w.heap.size + 3, k, none⟩ = some (.int .i64 (distF k k)) := hS.dist.cell (by omega)
    have g2 : wr.frozen? ⟨w.heap.size + 3, k, none⟩ = false := hS.dist.free _
    have hS2 := hS.set k (-1) (fun j _ => distF_step k j)
    go_wp2
    go_roundg (u - (k + 1))
    case measure => omega
    case rel => exact ⟨k + 1, by omega, rfl, by go_num, hS2, by simp [sz4]⟩
  obtain rfl : k = u := by omega
  clear hkn
  have g1 : wr.cell? ⟨w.heap.size + 3, tx, none⟩ = some (.int .i64 (distF k tx)) := hS.dist.cell (by omega)
  have g2 : wr.frozen? ⟨w.heap.size + 3, tx, none⟩ = false := hS.dist.free _
  have t1 : (tx : Int) < (k : Int) := by omega
  have hS2 := hS.set tx 0 (fun j hj => distF_tx k tx j hj)
  have hmk5 := make_room k (by omega)
  obtain ⟨i0, hi0, hz0, hz1, hz2⟩ := info_parts Try.info3
  have hH0 := Has.made (wr.setCell ⟨w.heap.size + 3, tx, none⟩ (.int .i64 0)) k (w.heap.size + 4) (by simp [sz4])
  rw [show (wr.setCell ⟨w.heap.size + 3, tx, none⟩ (.int .i64 0)).heap.size = w.heap.size + 4 by simp [sz4]] at hH0
  have sz5 : ((wr.setCell ⟨w.heap.size + 3, tx, none⟩ (.int .i64 0)).alloc (.cells (madeCells #[.int .i64 0] k) 3)).heap.size = w.heap.size + 5 := by simp [sz4]
  have hcx := box_cell ((wr.setCell ⟨w.heap.size + 3, tx, none⟩ (.int .i64 0)).alloc (.cells (madeCells #[.int .i64 0] k) 3)) (.int .i64 (tx : Int)) 3 (w.heap.size + 5) sz5.symm
  have sz6 : w.heap.size + 4 ≤ (((wr.setCell ⟨w.heap.size + 3, tx, none⟩ (.int .i64 0)).alloc (.cells (madeCells #[.int .i64 0] k) 3)).alloc (.cells #[.int .i64 (tx : Int)] 3)).heap.size := by simp [sz4]
  go_wp2_with (at_builtin; refine wpList_append_has _ rfl (.tmp 150) (.tmp 152) 23 rfl (w.heap.size + 4) 3 i0 (.int .i64 0) Try.underlying23 hi0 hz0 hz1 hz2 rfl _ [] rfl (hH0.alloc _) ⟨w.heap.size + 5, 0, none⟩ 1 (.int .i64 (tx : Int)) rfl hcx rfl (by simp) sz6 ?_; intro q w1 hH1 hg1 hloc)
  have hS3 := ((hS2.alloc (.cells (madeCells #[.int .i64 0] k) 3)).alloc (.cells #[.int .i64 (tx : Int)] 3)).grown hg1 (fun b hb => by have hb' : some (w.heap.size + 4) = some b := hb; cases hb'; exact Nat.le_refl _)
  have S5 : St5 w w1 k E (d0 tx) [tx] q := ⟨hS3, by simpa [ints] using hH1⟩
  clear hH0 hH1 hg1 hloc hS3 hS hS2 hcx sz4 sz5 sz6 hmk5 g1 g2
  -- LOOPS 8, 9: the search
  go_loopg [20, 21] k (fun g sq sh wr => ∃ (h : Nat) (Lq : List Nat) (d : Nat → Option Nat), h ≤ Lq.length ∧ g = k - h ∧ sh = .int .i64 h ∧ St5 w wr k E d Lq sq ∧ Once k Lq d ∧ Mid (srcs E) tx (Lq.take h) (Lq.drop h) d)
  case atStart => exact ⟨0, [tx], d0 tx, Nat.zero_le _, rfl, rfl, S5, Once.start htx, Mid.init _ _⟩
  clear S5
  obtain ⟨h, Lq, d, hhl, rfl, rfl, S5, hO, hM⟩ := hrel
  have hOl := hO.len
  by_cases hlt : h < Lq.length
  · obtain ⟨g, off, cap, hq, hcap, hat⟩ := S5.queue.elem (by rw [ints_len]; omega)
    rw [ints_len] at hq hcap
    subst hq
    obtain ⟨v, hv⟩ : ∃ v, Lq[h] = v := ⟨_, rfl⟩
    have hvn : v < k := by rw [← hv]; exact hO.lt _ (List.getElem_mem hlt)
    have g1 : wr.cell? ⟨g, off + h, none⟩ = some (.int .i64 (v : Int)) := by rw [← hv]; exact hat h _ (ints_get hlt)
    have hdrop : Lq.drop h = v :: Lq.drop (h + 1) := by rw [List.drop_eq_getElem_cons hlt, hv]
    rw [hdrop] at hM
    have hLq : Lq = Lq.take h ++ v :: Lq.drop (h + 1) := by rw [← hdrop, List.take_append_drop]
    have hPl : (Lq.take h).length = h := by rw [List.length_take]; omega
    obtain ⟨du, hI⟩ := hM.start
    have g2 : wr.cell? ⟨w.heap.size, v, none⟩ = some (.int .i64 (pre E v : Int)) := S5.four.start.cell (by omega)
    have l1 : (h : Int) < (Lq.length : Int) := by omega
    have l2 : (v : Int) < (k : Int) + 1 := by omega
    have hpv := hpb v (by omega)
    have HLq : Hid (Lq = Lq.take h ++ v :: Lq.drop (h + 1) ∧ (Lq.take h).length = h) := ⟨hLq, hPl⟩
    clear hLq hPl hdrop hv hat hM
    go_wp2
    have S5' : St5 w wr k E d (Lq.take h ++ v :: Lq.drop (h + 1)) (.slice (some ⟨g, off, none⟩) Lq.length cap) := by rw [← HLq.out.1]; exact S5
    have hO' : Once k (Lq.take h ++ v :: Lq.drop (h + 1)) d := by rw [← HLq.out.1]; exact hO
    clear S5 hO
    generalize Lq.take h = P at HLq S5' hO' hI
    generalize Lq.drop (h + 1) = Q0 at HLq S5' hO' hI
    generalize Value.slice (some ⟨g, off, none⟩) Lq.length cap = q0 at S5' ⊢
    have hhk : h < k := by omega
    clear g1 g2 hlt hcap l1 l2
    go_loopg [20, 23] (pre E (v + 1) - pre E v) (fun g sq sk wr => ∃ (kk : Nat) (Q : List Nat) (d' : Nat → Option Nat), pre E v ≤ kk ∧ kk ≤ pre E (v + 1) ∧ g = pre E (v + 1) - kk ∧ sk = .int .i64 kk ∧ St5 w wr k E d' (P ++ v :: Q) sq ∧ Once k (P ++ v :: Q) d' ∧ Scan (srcs E) tx P v ((srcs E v).take (kk - pre E v)) Q d' du)
    case atStart => exact ⟨pre E v, Q0, d, Nat.le_refl _, pre_mono E (by omega), rfl, rfl, S5', hO', by simpa using hI⟩
    case round =>
      clear S5' hO' hI
      obtain ⟨kk, Q, d', hk1, hk2, rfl, rfl, S5, hO, hI⟩ := hrel
      have hpv1 := hpb (v + 1) (by omega)
      have hpk : pre E (v + 1) ≤ pre E k := pre_mono E (by omega)
      have g1 : wr.cell? ⟨w.heap.size, v + 1, none⟩ = some (.int .i64 (pre E (v + 1) : Int)) := S5.four.start.cell (by omega)
      have l1 : (v : Int) + 1 < (k : Int) + 1 := by omega
      by_cases hkk : kk < pre E (v + 1)
      · have hb2 : pre E (v + 1) = pre E v + (srcs E v).length := rfl
        have hil : kk - pre E v < (srcs E v).length := by omega
        obtain ⟨x, hx⟩ : ∃ x, (srcs E v)[kk - pre E v] = x := ⟨_, rfl⟩
        have hx? : (srcs E v)[kk - pre E v]? = some x := by rw [List.getElem?_eq_getElem hil, hx]
        have hxm : x ∈ srcs E v := by rw [← hx]; exact List.getElem_mem hil
        have hxk : x < k := by rw [HE.out] at hxm; exact srcs_bound hxm
        obtain ⟨rv, hfl, hrv⟩ := S5.four.rev
        have g2 : wr.cell? ⟨w.heap.size + 2, kk, none⟩ = some (.int .i64 (x : Int)) := by
          rw [hrv.cell (by omega), show kk = pre E v + (kk - pre E v) by omega, hfl v _ x hx?]
        have g3 : wr.cell? ⟨w.heap.size + 3, x, none⟩ = some (.int .i64 (dEnc (d' x))) := S5.four.dist.cell hxk
        have g4 : wr.frozen? ⟨w.heap.size + 3, x, none⟩ = false := S5.four.dist.free _
        have g5 : wr.cell? ⟨w.heap.size + 3, v, none⟩ = some (.int .i64 (du : Int)) := by rw [S5.four.dist.cell hvn, hI.cur]; rfl
        have htk : (srcs E v).take (kk + 1 - pre E v) = (srcs E v).take (kk - pre E v) ++ [x] := by
          rw [show kk + 1 - pre E v = kk - pre E v + 1 by omega]; exact take_snoc hx?
        have hOl := hO.len
        have hdu := hO.small v du hI.cur
        have k1 : (kk : Int) < (pre E k : Int) := by omega
        have x1 : (x : Int) < (k : Int) := by omega
        have v1 : (v : Int) < (k : Int) := by omega
        clear hfl hrv hb2 hil hx hx?
        cases hdx : d' x with
        | none =>
          have hI' := hI.new hdx hxm
          have hO' := hO.new hdx hxk (k := du + 1) (by omega)
          have hroom := hO.room hdx hxk
          rw [hdx] at g3
          have g3' : wr.cell? ⟨w.heap.size + 3, x, none⟩ = some (.int .i64 (-1)) := g3
          have h4 := St5.four_put S5.four x du
          have hH := S5.queue.set_below (b := w.heap.size + 3) (i := x) (by omega) (.int .i64 ((du : Int) + 1))
          have szb : w.heap.size + 4 ≤ ((wr.setCell ⟨w.heap.size + 3, x, none⟩ (.int .i64 ((du : Int) + 1))).alloc (.cells #[.int .i64 (x : Int)] 3)).heap.size := by have := S5.four.size; simp; omega
          have hcx := box_cell (wr.setCell ⟨w.heap.size + 3, x, none⟩ (.int .i64 ((du : Int) + 1))) (.int .i64 (x : Int)) 3 wr.heap.size (by simp)
          have hlen : ((ints (P ++ v :: Q)).length + 1) * 8 ≤ 140737488355328 := by rw [ints_len]; omega
          have Hd : Hid (d' x = none ∧ (srcs E v).take (kk + 1 - pre E v) = (srcs E v).take (kk - pre E v) ++ [x]) := ⟨hdx, htk⟩
          clear hdx htk g3 S5 hO hI
          go_wp2_with (at_builtin; refine wpList_append_has _ rfl (.tmp 194) (.tmp 196) 23 rfl (w.heap.size + 4) 3 i0 (.int .i64 0) Try.underlying23 hi0 hz0 hz1 hz2 rfl _ _ rfl (hH.alloc _) ⟨wr.heap.size, 0, none⟩ 1 (.int .i64 (x : Int)) rfl hcx rfl hlen szb ?_; intro q w1 hH1 hg1 hloc)
          have h4' := (h4.alloc (.cells #[.int .i64 (x : Int)] 3)).grown hg1 (fun b hb => (hH.own hb).1)
          rw [ints_snoc, List.append_assoc, List.cons_append] at hH1
          clear hH hg1 hloc h4 hcx szb
          go_wp2
          go_roundg (pre E (v + 1) - (kk + 1))
          case measure => omega
          case rel => exact ⟨kk + 1, Q ++ [x], put d' x (du + 1), by omega, by omega, rfl, by go_num, ⟨h4', hH1⟩, by simpa using hO', by rw [Hd.out.2]; exact hI'⟩
        | some j =>
          have hI' := hI.old hdx
          have hj := hO.small x j hdx
          rw [hdx] at g3
          have g3' : wr.cell? ⟨w.heap.size + 3, x, none⟩ = some (.int .i64 (j : Int)) := g3
          have Hd : Hid ((srcs E v).take (kk + 1 - pre E v) = (srcs E v).take (kk - pre E v) ++ [x]) := htk
          clear hdx htk g3
          go_wp2
          go_roundg (pre E (v + 1) - (kk + 1))
          case measure => omega
          case rel => exact ⟨kk + 1, Q, d', by omega, by omega, rfl, by go_num, S5, hO, by rw [Hd.out]; exact hI'⟩
      · obtain rfl : kk = pre E (v + 1) := by omega
        go_wp2
        go_roundg (k - (h + 1))
        case measure => omega
        case rel =>
          have hb2 : pre E (v + 1) = pre E v + (srcs E v).length := rfl
          have hM' := hI.close (fun y hy => by rw [hb2, Nat.add_sub_cancel_left, List.take_length]; exact hy)
          have hPl := HLq.out.2
          refine ⟨h + 1, P ++ v :: Q, d', by simp; omega, rfl, by go_num, S5, hO, ?_⟩
          have e1 : (P ++ v :: Q).take (h + 1) = P ++ [v] := by
            rw [show P ++ v :: Q = (P ++ [v]) ++ Q by simp, List.take_left' (by simp [hPl])]
          have e2 : (P ++ v :: Q).drop (h + 1) = Q := by
            rw [show P ++ v :: Q = (P ++ [v]) ++ Q by simp, List.drop_left' (by simp [hPl])]
          rw [e1, e2]
          exact hM'
  obtain rfl : h = Lq.length := by omega
  rw [List.drop_length] at hM
  obtain ⟨qa, qc, rfl, hqc⟩ := S5.queue.shape
  rw [ints_len] at hqc ⊢
  go_wp2
  -- LOOP 10: the least
  clear hlt hhl hqc
  go_loopg [25, 26] m (fun g sb sk wx => wr = wx ∧ ∃ (kk : Nat) (o : Option Nat), kk ≤ m ∧ g = m - kk ∧ sk = .int .i64 kk ∧ sb = .int .i64 (bEnc o) ∧ Best d (lst kk Bn) o)
  case atStart => exact ⟨rfl, 0, none, Nat.zero_le _, rfl, rfl, rfl, Best.start d⟩
  obtain ⟨rfl, kk, o, hkm, rfl, rfl, rfl, hBe⟩ := hrel
  by_cases hkk : kk < m
  · obtain ⟨bb, bo, rfl, hbc⟩ := (hB.since (Nat.le_refl _) S5.four.since) (by omega)
    have g1 := hbc kk hkk
    have hb1 := hBlt kk hkk
    have hst := hBe.step (Bn kk)
    rw [← lst_succ] at hst
    clear hbc
    generalize Bn kk = b at g1 hb1 hst
    have g2 : wr.cell? ⟨w.heap.size + 3, b, none⟩ = some (.int .i64 (dEnc (d b))) := S5.four.dist.cell hb1
    have k1 : (kk : Int) < (m : Int) := by omega
    have b1 : (b : Int) < (k : Int) := by omega
    cases hdb : d b with
    | none =>
      rw [hdb] at g2 hst
      have g2' : wr.cell? ⟨w.heap.size + 3, b, none⟩ = some (.int .i64 (-1)) := g2
      clear g2 hdb
      go_wp2
      go_roundg (m - (kk + 1))
      case measure => omega
      case rel => exact ⟨rfl, kk + 1, o, by omega, rfl, by go_num, rfl, hst⟩
    | some j =>
      have hj := hO.small b j hdb
      rw [hdb] at g2 hst
      have g2' : wr.cell? ⟨w.heap.size + 3, b, none⟩ = some (.int .i64 (j : Int)) := g2
      clear g2 hdb
      cases o with
      | none =>
        have hb0 : bEnc none = -1 := rfl
        rw [hb0]
        go_wp2
        go_roundg (m - (kk + 1))
        case measure => omega
        case rel => exact ⟨rfl, kk + 1, some j, by omega, rfl, by go_num, rfl, hst⟩
      | some p =>
        have hp : p < Lq.length := by
          obtain ⟨⟨y, _, hy⟩, _⟩ := hBe
          exact hO.small y p hy
        have hb0 : bEnc (some p) = (p : Int) + 1 := rfl
        rw [hb0]
        by_cases hjp : j < p
        · have hu : upd (some p) (some j) = some j := if_pos hjp
          rw [hu] at hst
          clear hu hb0
          go_wp2
          go_roundg (m - (kk + 1))
          case measure => omega
          case rel => exact ⟨rfl, kk + 1, some j, by omega, rfl, by go_num, rfl, hst⟩
        · have hu : upd (some p) (some j) = some p := if_neg hjp
          rw [hu] at hst
          clear hu hb0
          go_wp2
          go_roundg (m - (kk + 1))
          case measure => omega
          case rel => exact ⟨rfl, kk + 1, some p, by omega, rfl, by go_num, rfl, hst⟩
  obtain rfl : kk = m := by omega
  go_wp2
  go_ret
  refine ⟨o, rfl, ?_, S5.four.since⟩
  rw [HE.out] at hM
  refine hBe.isMin (fun u v hu hv => ?_) (fun b hb => ?_) hM
  · obtain ⟨i, hi, rfl⟩ := lst_mem.1 hv
    exact hG.lt u i hu hi
  · obtain ⟨i, hi, rfl⟩ := lst_mem.1 hb
    exact hBlt i hi

end Go.Proofs.Qxb6616799a
