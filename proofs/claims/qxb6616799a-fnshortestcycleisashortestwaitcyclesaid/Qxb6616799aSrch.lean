/-
  THE WALK OF ShortestCycle (20), seat b6616799a.
-/
import Derived.Test.Qxb6616799aSrchMem
import Derived.Maps.OwnOps
namespace Go.Proofs.Qxb6616799a
open Go.RowKit Plain

set_option maxHeartbeats 4000000 in
set_option maxRecDepth 1000000 in
theorem srch_walk (w : World) (Na Nt Tb gb go n nc : Nat) (A : Nat → Option Addr) (L C RB RO : Nat → Nat) (Z : Nat → Nat → Nat) (T : Nat → Nat) (tx bb m : Nat) (Bn : Nat → Nat)
    (hE : Env w Na Nt Tb gb go n nc A L C RB RO Z T) (htx : tx < n) (hn : n ≤ 4096) (hL : ∀ r, r < n → L r ≤ 131072) (hm : m ≤ 131072) (hBs : w.rowIs bb 36 m (fun i => tp T (Bn i))) (hBlt : ∀ i, i < m → Bn i < n) :
    Calls Try.prog 20 #[.pointer (some ⟨T tx, 0, none⟩), .slice (some ⟨bb, 0, none⟩) m m, .func (.func 18) #[] #[.pointer (some ⟨Na, 0, none⟩), .pointer (some ⟨Nt, 0, none⟩)]] w fun e w' =>
      w.Since w.heap.size w' ∧ ((e = .returned (.slice none 0 0) ∧ IsMin (Cyc (adjOf L Z) tx (lst m Bn)) none) ∨
        ∃ l g off cap, e = .returned (.slice (some ⟨g, off, none⟩) l.length cap) ∧ l.length ≤ cap ∧ 0 < l.length ∧ l.length ≤ n ∧ Edges (adjOf L Z) tx (lst m Bn) l ∧ tx ∈ out (adjOf L Z) tx (lst m Bn) (l.getD 0 0) ∧ IsMin (Cyc (adjOf L Z) tx (lst m Bn)) (some (l.length - 1)) ∧ w.heap.size ≤ g ∧
          RowAt w' g off l.length (fun i => tp T (l.getD (l.length - 1 - i) 0))) := by
  obtain ⟨i0, hi0, hz0, hz1, hz2⟩ := info_parts Try.info36
  have hmm := @run_makeMap Try.prog
  have hTx := hE.txns
  obtain ⟨w1, hins, hm1, hg1⟩ := (MapIs.made w T n).update (hTx.alloc (.map #[] 0)) htx rfl none
  rw [setF_root] at hm1
  rw [po_none] at hins
  have hs1 : w.Since w.heap.size w1 := ((World.Since.refl _ _).alloc (Nat.le_refl _) _).grown hg1 (by simp) (fun k hk => by cases hk; exact Nat.le_refl _)
  have S0 : Srch w w1 w.heap.size n T (.slice (some ⟨bb, 0, none⟩) m m) (.slice none 0 0) (.slice none 0 0) (lst m Bn) [] (fr0 tx) :=
    ⟨hs1, hm1, Nat.le_refl _, (Has.ofRow hBs).block (fun k hk => by cases hk; exact hs1.block _ hBs.lt), Has.nil _ _ _, ⟨[], Has.nil _ _ _⟩, fun k hk e => by simp [Value.ownBlock] at e, fun k hk e => by simp [Value.ownBlock] at e⟩
  go_enter Try.func20, Try.ntmps20
  go_wp2
  clear hmm hins hm1 hg1 hs1
  go_loopg [1, 8, 9, 10] n (fun g sb snx sbuf su wr => ∃ (P : List Nat) (u : Nat) (Q : List Nat) (d : Nat → Option Nat) (du : Nat) (fr : Nat → Option (Option Nat)) (xs : List Nat), g = n - P.length ∧ su = tp T u ∧ Hid (out (adjOf L Z) tx (lst m Bn) u = xs) ∧
    Srch w wr w.heap.size n T sb snx sbuf xs Q fr ∧ SI (adjOf L Z) tx (lst m Bn) n P u [] Q d du fr ∧ (tx ∈ P ∨ tx = u))
  case atStart => exact ⟨[], tx, [], d0 tx, 0, fr0 tx, lst m Bn, rfl, rfl, (show out _ _ _ _ = _ by unfold out; rw [if_pos rfl]), S0, SI.start htx, .inr rfl⟩
  clear S0
  obtain ⟨P, u, Q, d, du, fr, xs, rfl, rfl, hxs, hS, hI, ht⟩ := hrel
  have hun := hI.lt
  have hxl : xs.length ≤ 131072 := by rw [← hxs.out]; exact out_len u (hL u hun) hm
  have hxn : ∀ v ∈ xs, v < n := fun v hv => out_lt hE.graph.lt hBlt u v hun (by rw [hxs.out]; exact hv)
  obtain ⟨a, cap, rfl, hcap⟩ := hS.src.shape
  have ha : 0 < xs.length → ∃ g off, a = some ⟨g, off, none⟩ := fun h0 => hS.src.addr (by rw [tps_len]; exact h0)
  rw [tps_len] at hcap ⊢
  rw [tps_len] at hS
  go_wp2
  -- THE INNER LOOP: what u waits for
  go_loopg [8, 21] xs.length (fun g snx si wr => ∃ (k : Nat) (Q : List Nat) (d : Nat → Option Nat) (fr : Nat → Option (Option Nat)), k ≤ xs.length ∧ g = xs.length - k ∧ si = .int .i64 k ∧
    Srch w wr w.heap.size n T (.slice a xs.length cap) snx u9 xs Q fr ∧ SI (adjOf L Z) tx (lst m Bn) n P u (xs.take k) Q d du fr)
  case atStart => exact ⟨0, Q, d, fr, Nat.zero_le _, rfl, rfl, hS, by simpa using hI⟩
  clear hS hI
  obtain ⟨k, Q, d, fr, hk, rfl, rfl, hS, hI⟩ := hrel
  by_cases hlt : k < xs.length
  · obtain ⟨g, off, rfl⟩ := ha (by omega)
    obtain ⟨v, hv⟩ : ∃ v, xs[k] = v := ⟨_, rfl⟩
    have hv? : xs[k]? = some v := by rw [List.getElem?_eq_getElem hlt, hv]
    have hvm : v ∈ xs := by rw [← hv]; exact List.getElem_mem hlt
    have hvn := hxn v hvm
    have htk := take_snoc hv?
    have g1 : wr.cell? ⟨g, off + k, none⟩ = some (.pointer (some ⟨T v, 0, none⟩)) := hS.src.read k _ (by rw [tps_get hlt, hv])
    have hTw := hTx.since (Nat.le_refl _) hS.since
    have heq := run_eql_tp hTw hvn htx
    have k1 : (k : Int) < (xs.length : Int) := by omega
    have Hk : Hid (xs.take (k + 1) = xs.take k ++ [v]) := htk
    clear hv hv? htk ha
    by_cases hvt : v = tx
    · subst hvt
      have hd : decide (v = v) = true := decide_eq_true rfl
      rw [hd] at heq
      obtain ⟨l, hch, hed, hll, hmin⟩ := hI.fwd.hit hI.inv hI.past (by rw [hxs.out]; exact hvm)
      have hlb : ∀ y ∈ l, y < n := fun y hy => by
        obtain ⟨i, hi, rfl⟩ := List.getElem_of_mem hy
        have := hed.bound htx (out_lt hE.graph.lt hBlt) i hi
        simpa [List.getD, hi] using this
      have hds := hI.ord.small u du hI.inv.cur
      have hol := hI.ord.len
      have hmin' : IsMin (Cyc (adjOf L Z) v (lst m Bn)) (some (l.length - 1)) := by rw [hll, Nat.add_sub_cancel]; exact hmin
      have hln : l.length ≤ n := by omega
      have hcl : v ∈ out (adjOf L Z) v (lst m Bn) (l.getD 0 0) := by
        obtain ⟨l', rfl⟩ := hch.head
        show v ∈ out (adjOf L Z) v (lst m Bn) u
        rw [hxs.out]
        exact hvm
      have hl0 : 0 < l.length := by omega
      clear hd hmin hll
      go_wp2_with fail
      refine (path_walk w.heap.size n u T fr l wr hS.map hTw hch hlb (by omega)).mono ?_
      rintro e w' ⟨pg, po, pc, rfl, hpc, hpg, hR, hsp⟩
      go_wp2
      go_ret
      refine ⟨hS.since.trans ⟨hsp.os, hsp.tape, hsp.output, hsp.size, fun b hb => hsp.block b (Nat.lt_of_lt_of_le hb hS.since.size)⟩, .inr ⟨l, pg, po, pc, rfl, hpc, hl0, hln, hed, hcl, hmin', Nat.le_trans hS.since.size hpg, hR⟩⟩
    · have hd : decide (v = tx) = false := decide_eq_false hvt
      rw [hd] at heq
      cases hfv : fr v with
      | some p =>
        have hlk := hS.map.look_some hTw hvn hfv true
        simp only [if_true] at hlk
        obtain ⟨j, hj⟩ : ∃ j, d v = some j := by
          cases hdv : d v with
          | none => rw [(hI.fwd.same v).2 hdv] at hfv; cases hfv
          | some j => exact ⟨j, rfl⟩
        have hI' := hI.old hj hvt
        rw [← Hk.out] at hI'
        clear hfv hj hd
        go_wp2
        go_roundg (xs.length - (k + 1))
        case measure => omega
        case rel => exact ⟨k + 1, Q, d, fr, by omega, rfl, by go_num, hS, hI'⟩
      | none =>
        have hlk := hS.map.look_none hTw hvn hfv
        have hdv : d v = none := (hI.fwd.same v).1 hfv
        have hI' := hI.new hdv hvt (by rw [hxs.out]; exact hvm) hvn
        have hroom := hI.ord.room hdv hvn
        rw [← Hk.out] at hI'
        obtain ⟨w1, hup, hm1, hg1⟩ := hS.map.update hTw hvn hfv (some u)
        rw [po_some] at hup
        rw [setF_put] at hm1
        have hS1 := hS.entry hm1 hg1
        have hS2 := hS1.alloc (.cells #[tp T v] 36)
        have hcx := box_cell w1 (tp T v) 36 w1.heap.size rfl
        have hlen : ((tps T Q).length + 1) * 8 ≤ 140737488355328 := by rw [tps_len]; simp at hroom; omega
        have szb : w.heap.size ≤ (w1.alloc (.cells #[tp T v] 36)).heap.size := hS2.since.size
        clear hfv hdv hd hm1 hg1
        go_wp2_with (at_builtin; refine wpList_append_has _ rfl (.tmp 42) (.tmp 44) 35 rfl w.heap.size 36 i0 (.pointer none) Try.underlying35 hi0 hz0 hz1 hz2 rfl _ _ rfl (hS1.next.alloc _) ⟨w1.heap.size, 0, none⟩ 1 (.pointer (some ⟨T v, 0, none⟩)) rfl hcx rfl hlen szb ?_; intro v' w2 hH2 hg2 hloc)
        rw [tps_snoc] at hH2
        have hS3 := hS2.push hH2 hg2 hloc
        clear hS hS1 hS2 hH2 hg2 hloc hlk hup hcx
        go_wp2
        go_roundg (xs.length - (k + 1))
        case measure => omega
        case rel => exact ⟨k + 1, Q ++ [v], put d v (du + 1), putF fr v u, by omega, rfl, by go_num, hS3, hI'⟩
  obtain rfl : k = xs.length := by omega
  rw [List.take_length, ← hxs.out] at hI
  obtain ⟨na, ncap, rfl, hncap⟩ := hS.next.shape
  rw [tps_len] at hncap ⊢
  rw [tps_len] at hS
  clear ha hlt
  cases Q with
  | nil =>
    obtain ⟨hM, hP⟩ := hI.close
    have hmin := Fwd.miss hM hP
    clear hM hP
    go_wp2
    go_ret
    exact ⟨hS.since, .inl ⟨rfl, hmin⟩⟩
  | cons y Q =>
    obtain ⟨g, off, rfl⟩ := hS.next.addr (by simp [tps])
    have g1 : wr.cell? ⟨g, off, none⟩ = some (.pointer (some ⟨T y, 0, none⟩)) := by simpa using hS.next.read 0 (tp T y) (by simp [tps])
    have hyn := hI.ord.lt y (by simp)
    have hyt := hI.head_ne ht
    obtain ⟨dy, hI'⟩ := hI.next
    have hPr := hI.room
    have ht' : tx ∈ P ++ [u] := by
      rcases ht with ht | ht
      · exact List.mem_append.2 (.inl ht)
      · exact List.mem_append.2 (.inr (by simp [ht]))
    obtain ⟨ys, hys⟩ := hS.buf
    obtain ⟨ba, bcap, rfl, hbc⟩ := hys.shape
    have hoy : out (adjOf L Z) tx (lst m Bn) y = adjOf L Z y := by unfold out; rw [if_neg hyt]
    have Hoy : Hid (out (adjOf L Z) tx (lst m Bn) y = adjOf L Z y) := hoy
    have hlq : (y :: Q).length = Q.length + 1 := rfl
    rw [hlq] at hS hncap ⊢
    have hcut := run_cutOne g off (Q.length + 1) ncap (by omega)
    have hcut2 := run_cutAll ba ys.length bcap
    have hne : ((((Q.length + 1 : Nat) : Int)) == 0) = false := beq_eq_false_iff_ne.2 (by omega)
    have l0 : (0 : Int) < ((Q.length + 1 : Nat) : Int) := by omega
    have hol := hI.ord.len
    have hlen : Q.length + 1 ≤ 4096 := by simp at hol; omega
    have hSp := hS.pop
    rw [Nat.add_sub_cancel] at hcut hSp
    clear hoy hlq hI hol
    have l0' : (0 : Int) < (Q.length : Int) + 1 := by omega
    obtain ⟨nv, hnv⟩ : ∃ nv, Value.slice (if ncap = 1 then some ⟨g, off, none⟩ else some ⟨g, off + 1, none⟩) Q.length (ncap - 1) = nv := ⟨_, rfl⟩
    rw [hnv] at hcut hSp
    clear hnv
    go_wp2_with fail
    go_quiet (fail)
    go_wp2_with fail
    have hSq := hSp.drewN nq
    refine (clos_walk w _ Na Nt Tb gb go n nc A L C RB RO Z T y (.slice ba 0 bcap) hE hSq.since hyn hn (hL y hyn) ((hys.cutAll).drewN nq)).mono ?_
    rintro e w2 ⟨v', rfl, hH2, hg2, hn2⟩
    have hS2 := hSq.turn hH2 hg2 hn2
    clear hS hSp hSq hys hcut hcut2 hH2 hg2 hn2
    go_wp2
    go_roundg (n - (P ++ [u]).length)
    case measure => simp; omega
    case rel => exact ⟨P ++ [u], y, Q, d, dy, fr, adjOf L Z y, rfl, rfl, Hoy, hS2, hI', .inl ht'⟩

end Go.Proofs.Qxb6616799a
