/-
  WHAT ShortestCycle's LOOPS HOLD (seat b6616799a): no walk here.
-/
import Derived.Test.Qxb6616799aClos
namespace Go.Proofs.Qxb6616799a
open Go.RowKit Plain

theorem Has.low {w : World} {lo lo' : Nat} {e : TypeId} {v : Value} {xs : List Value} (h : Has w lo e v xs) (hl : lo' ≤ lo) : Has w lo' e v xs := by
  rcases h with h | ⟨g, off, cap, cur, rfl, hg, r⟩
  · exact .inl h
  · exact .inr ⟨g, off, cap, cur, rfl, Nat.le_trans hl hg, r⟩
/-- A row is no map. -/
theorem Has.noMap {w : World} {lo : Nat} {e : TypeId} {v : Value} {xs : List Value} (h : Has w lo e v xs) {M : Nat} {T : Nat → Nat} {n : Nat} {fr : Nat → Option (Option Nat)} (hM : MapIs w M T n fr) : v.ownBlock ≠ some M := by
  intro hk
  obtain ⟨es, clock, hb, _⟩ := hM
  rcases h with ⟨rfl, _⟩ | ⟨g, off, cap, cur, rfl, hg, hh, _⟩
  · simp [Value.ownBlock] at hk
  · simp [Value.ownBlock] at hk
    subst hk
    rw [hh] at hb
    cases hb
theorem Has.ofRow {w : World} {b m : Nat} {T : Nat → Nat} {Bn : Nat → Nat} (h : w.rowIs b 36 m (fun i => tp T (Bn i))) : Has w 0 36 (.slice (some ⟨b, 0, none⟩) m m) (tps T (lst m Bn)) := by
  obtain ⟨c, hb, hn, hc⟩ := h
  have hl : (tps T (lst m Bn)).length = m := by rw [tps_len, lst_length]
  refine .inr ⟨b, 0, m, c, by rw [hl], Nat.zero_le _, hb, by rw [hl]; exact Nat.le_refl _, by omega, fun i x hx => ?_⟩
  have hi : i < m := by have := (List.getElem?_eq_some_iff.1 hx).1; omega
  rw [tps_get (by rw [lst_length]; exact hi), lst_get m Bn i hi] at hx
  rw [Nat.zero_add, hc i hi]
  exact hx

/-- The memory of the search: the map; what u waits for; the queue; the buffer. -/
structure Srch (w wr : World) (M n : Nat) (T : Nat → Nat) (sb snx sbuf : Value) (xs Q : List Nat) (fr : Nat → Option (Option Nat)) : Prop where
  since : w.Since w.heap.size wr
  map : MapIs wr M T n fr
  mge : w.heap.size ≤ M
  src : Has wr 0 36 sb (tps T xs)
  next : Has wr w.heap.size 36 snx (tps T Q)
  buf : ∃ ys, Has wr w.heap.size 36 sbuf ys
  ap1 : ∀ k, sb.ownBlock = some k → snx.ownBlock ≠ some k
  ap2 : ∀ k, sbuf.ownBlock = some k → snx.ownBlock ≠ some k

section
variable {w wr w1 : World} {M n : Nat} {T : Nat → Nat} {sb snx sbuf : Value} {xs Q : List Nat} {fr fr' : Nat → Option (Option Nat)}

theorem Srch.alloc (h : Srch w wr M n T sb snx sbuf xs Q fr) (o : Obj) : Srch w (wr.alloc o) M n T sb snx sbuf xs Q fr := by
  obtain ⟨ys, hy⟩ := h.buf
  exact ⟨h.since.alloc h.since.size o, h.map.block (Deep.blk_alloc_lt _ _ _ h.map.lt), h.mge, h.src.alloc o, h.next.alloc o, ⟨ys, hy.alloc o⟩, h.ap1, h.ap2⟩
theorem Srch.drewN (h : Srch w wr M n T sb snx sbuf xs Q fr) (q : Nat) : Srch w (wr.drewN q) M n T sb snx sbuf xs Q fr := by
  obtain ⟨ys, hy⟩ := h.buf
  exact ⟨Since_drewN h.since q, h.map.block rfl, h.mge, h.src.block (fun _ _ => rfl), h.next.block (fun _ _ => rfl), ⟨ys, hy.block (fun _ _ => rfl)⟩, h.ap1, h.ap2⟩

/-- 'from[v] = u'. -/
theorem Srch.entry (h : Srch w wr M n T sb snx sbuf xs Q fr) (hm : MapIs w1 M T n fr') (hg : wr.grownBy w1 (some M)) : Srch w w1 M n T sb snx sbuf xs Q fr' := by
  obtain ⟨ys, hy⟩ := h.buf
  have ne : ∀ {lo : Nat} {v : Value} {zs : List Value}, Has wr lo 36 v zs → ∀ k, v.ownBlock = some k → some M ≠ some k := fun hh k hk e => hh.noMap h.map (by rw [hk, ← e])
  exact ⟨h.since.grown hg h.since.size (fun k hk => by cases hk; exact h.mge), hm, h.mge, h.src.kept hg (ne h.src), h.next.kept hg (ne h.next), ⟨ys, hy.kept hg (ne hy)⟩, h.ap1, h.ap2⟩

/-- 'next = append(next, v)'. -/
theorem Srch.push {v' : Value} {y : Nat} (h : Srch w wr M n T sb snx sbuf xs Q fr) (hn : Has w1 w.heap.size 36 v' (tps T (Q ++ [y]))) (hg : wr.grownBy w1 snx.ownBlock) (hloc : v'.ownBlock = snx.ownBlock ∨ v'.ownBlock = some wr.heap.size) :
    Srch w w1 M n T sb v' sbuf xs (Q ++ [y]) fr := by
  obtain ⟨ys, hy⟩ := h.buf
  have ap : ∀ {lo : Nat} {z : Value} {zs : List Value}, Has wr lo 36 z zs → (∀ k, z.ownBlock = some k → snx.ownBlock ≠ some k) → ∀ k, z.ownBlock = some k → v'.ownBlock ≠ some k := fun hz ha k hk => by
    rcases hloc with e | e
    · rw [e]; exact ha k hk
    · rw [e]
      intro e'
      have := (hz.own hk).2
      simp at e'
      omega
  refine ⟨h.since.grown hg h.since.size (fun k hk => (h.next.own hk).1), h.map.block (hg.block M h.map.lt (fun e => h.next.noMap h.map e.symm)), h.mge, h.src.kept hg (fun k hk => h.ap1 k hk), hn, ⟨ys, hy.kept hg (fun k hk => h.ap2 k hk)⟩, ap h.src h.ap1, ap hy h.ap2⟩

/-- 'next = next[1:]'. -/
theorem Srch.pop {y g off len cap : Nat} (h : Srch w wr M n T sb (.slice (some ⟨g, off, none⟩) len cap) sbuf xs (y :: Q) fr) :
    Srch w wr M n T sb (.slice (if cap = 1 then some ⟨g, off, none⟩ else some ⟨g, off + 1, none⟩) (len - 1) (cap - 1)) sbuf xs Q fr := by
  have hb : (Value.slice (if cap = 1 then some ⟨g, off, none⟩ else some ⟨g, off + 1, none⟩) (len - 1) (cap - 1)).ownBlock = (Value.slice (some ⟨g, off, none⟩) len cap).ownBlock := by
    by_cases e : cap = 1
    · rw [if_pos e]; rfl
    · rw [if_neg e]; rfl
  exact ⟨h.since, h.map, h.mge, h.src, Has.cutOne (xs := tps T Q) h.next, h.buf, fun k hk => by rw [hb]; exact h.ap1 k hk, fun k hk => by rw [hb]; exact h.ap2 k hk⟩

/-- 'buf = waitsFor(u, buf[:0]); blockers = buf'. -/
theorem Srch.turn {a : Option Addr} {len cap : Nat} {v' : Value} {zs : List Nat} (h : Srch w wr M n T sb snx (.slice a len cap) xs Q fr) (hn : Has w1 w.heap.size 36 v' (tps T zs)) (hg : wr.grownBy w1 (Value.slice a 0 cap).ownBlock) (hloc : Near wr (.slice a 0 cap) v') :
    Srch w w1 M n T v' snx v' zs Q fr := by
  obtain ⟨ys, hy⟩ := h.buf
  have hb : (Value.slice a 0 cap).ownBlock = (Value.slice a len cap).ownBlock := by cases a <;> rfl
  rw [hb] at hg
  have hap : ∀ k, v'.ownBlock = some k → snx.ownBlock ≠ some k := fun k hk => by
    rcases hloc with e | ⟨q, e1, e2⟩
    · rw [e, hb] at hk; exact h.ap2 k hk
    · intro e'
      have := (h.next.own e').2
      rw [e1] at hk
      simp at hk
      omega
  exact ⟨h.since.grown hg h.since.size (fun k hk => (hy.own hk).1), h.map.block (hg.block M h.map.lt (fun e => hy.noMap h.map e.symm)), h.mge, hn.low (Nat.zero_le _), h.next.kept hg (fun k hk e => h.ap2 k e hk), ⟨_, hn⟩, hap, hap⟩
end

/-- The search as such. -/
structure SI (adj : Nat → List Nat) (tx : Nat) (bl : List Nat) (n : Nat) (P : List Nat) (u : Nat) (done Q : List Nat) (d : Nat → Option Nat) (du : Nat) (fr : Nat → Option (Option Nat)) : Prop where
  inv : Scan (out adj tx bl) tx P u done Q d du
  fwd : Fwd adj tx bl fr d
  ord : Once n (P ++ u :: Q) d
  past : ∀ p ∈ P, tx ∉ out adj tx bl p
  now : tx ∉ done

section
variable {adj : Nat → List Nat} {tx : Nat} {bl : List Nat} {n : Nat} {P : List Nat} {u : Nat} {done Q : List Nat} {d : Nat → Option Nat} {du : Nat} {fr : Nat → Option (Option Nat)}
theorem SI.start {adj : Nat → List Nat} {tx : Nat} {bl : List Nat} {n : Nat} (h : tx < n) : SI adj tx bl n [] tx [] [] (d0 tx) 0 (fr0 tx) :=
  ⟨Scan.init _ _, Fwd.init _ _ _, Once.start h, by simp, by simp⟩
theorem SI.old {v k : Nat} (h : SI adj tx bl n P u done Q d du fr) (hv : d v = some k) (hne : v ≠ tx) : SI adj tx bl n P u (done ++ [v]) Q d du fr :=
  ⟨h.inv.old hv, h.fwd, h.ord, h.past, by
    intro hm
    rcases List.mem_append.1 hm with hm | hm
    · exact h.now hm
    · exact hne (by simpa using hm : tx = v).symm⟩
theorem SI.new {v : Nat} (h : SI adj tx bl n P u done Q d du fr) (hv : d v = none) (hne : v ≠ tx) (hn : v ∈ out adj tx bl u) (hlt : v < n) : SI adj tx bl n P u (done ++ [v]) (Q ++ [v]) (put d v (du + 1)) du (putF fr v u) := by
  have hs := h.ord.small u du h.inv.cur
  refine ⟨h.inv.new hv hn, h.fwd.new hv hne h.inv.cur hn, ?_, h.past, ?_⟩
  · have := h.ord.new (k := du + 1) hv hlt (by omega)
    simpa using this
  · intro hm
    rcases List.mem_append.1 hm with hm | hm
    · exact h.now hm
    · exact hne (by simpa using hm : tx = v).symm
/-- All that u waits for has been looked at. -/
theorem SI.close (h : SI adj tx bl n P u (out adj tx bl u) Q d du fr) : Mid (out adj tx bl) tx (P ++ [u]) Q d ∧ ∀ p ∈ P ++ [u], tx ∉ out adj tx bl p :=
  ⟨h.inv.close (fun _ hv => hv), fun p hp => by
    rcases List.mem_append.1 hp with hp | hp
    · exact h.past p hp
    · obtain rfl : p = u := by simpa using hp
      exact h.now⟩
theorem SI.next {y : Nat} (h : SI adj tx bl n P u (out adj tx bl u) (y :: Q) d du fr) : ∃ dy, SI adj tx bl n (P ++ [u]) y [] Q d dy fr := by
  obtain ⟨hM, hP⟩ := h.close
  obtain ⟨dy, hI⟩ := hM.start
  exact ⟨dy, hI, h.fwd, by simpa using h.ord, hP, by simp⟩
theorem SI.room (h : SI adj tx bl n P u done Q d du fr) : P.length < n := by
  have := h.ord.len
  simp at this
  omega
theorem SI.lt (h : SI adj tx bl n P u done Q d du fr) : u < n := h.ord.lt u (by simp)
/-- y, the next of the queue, is another than tx. -/
theorem SI.head_ne {y : Nat} (h : SI adj tx bl n P u done (y :: Q) d du fr) (ht : tx ∈ P ∨ tx = u) : y ≠ tx := by
  intro e
  have hn := h.ord.nodup
  rw [List.nodup_append] at hn
  obtain ⟨_, h2, h3⟩ := hn
  rcases ht with ht | ht
  · exact h3 tx ht y (by simp) e.symm
  · rw [List.nodup_cons] at h2
    exact h2.1 (by rw [← ht, ← e]; simp)
end

/-- 'next[1:]', 'buf[:0]'. -/
theorem run_cutOne (g off len cap : Nat) (h1 : 1 ≤ len) (wx : World) :
    (Instr.slice 35 (.slice (some ⟨g, off, none⟩) len cap) (some (.int .i64 1)) none none).run Try.prog wx = .ok (.slice (if cap = 1 then some ⟨g, off, none⟩ else some ⟨g, off + 1, none⟩) (len - 1) (cap - 1)) wx := by
  obtain ⟨i0, hi0, hz0, hz1, hz2⟩ := info_parts Try.info36
  have l1 : (1 : Int) ≤ (len : Int) := by omega
  simp [Instr.slice, Instr.sliceBounds, Instr.sliceBound, run_underlying Try.underlying35, sizeOf, typeInfo, hi0, hz1, asIntOf, l1, Addr.add_lit]
theorem run_cutAll (a : Option Addr) (len cap : Nat) (wx : World) :
    (Instr.slice 35 (.slice a len cap) none (some (.int .i64 0)) none).run Try.prog wx = .ok (.slice a 0 cap) wx := by
  obtain ⟨i0, hi0, hz0, hz1, hz2⟩ := info_parts Try.info36
  have key : (if cap = 0 then a else Option.map (fun x => x.add 0) a) = a := by
    by_cases hc : cap = 0
    · rw [if_pos hc]
    · rw [if_neg hc]
      cases a with
      | none => rfl
      | some x => simp [Addr.add]
  simp [Instr.slice, Instr.sliceBounds, Instr.sliceBound, run_underlying Try.underlying35, sizeOf, typeInfo, hi0, asIntOf, key]

theorem Has.read {w : World} {lo : Nat} {e : TypeId} {g off len cap : Nat} {xs : List Value} (h : Has w lo e (.slice (some ⟨g, off, none⟩) len cap) xs) : ∀ i x, xs[i]? = some x → w.cell? ⟨g, off + i, none⟩ = some x := by
  rcases h with ⟨hv, _⟩ | ⟨g', off', cap', cur, hv, hl, hh, h1, h2, h3⟩
  · cases hv
  · simp only [Value.slice.injEq, Option.some.injEq, Addr.mk.injEq] at hv
    obtain ⟨⟨rfl, rfl, _⟩, rfl, rfl⟩ := hv
    intro i x hx
    simp [World.cell?, hh, h3 i x hx]
theorem Has.addr {w : World} {lo : Nat} {e : TypeId} {a : Option Addr} {len cap : Nat} {xs : List Value} (h : Has w lo e (.slice a len cap) xs) (h0 : 0 < xs.length) : ∃ g off, a = some ⟨g, off, none⟩ := by
  rcases h with ⟨_, rfl⟩ | ⟨g', off', cap', cur, hv, _⟩
  · simp at h0
  · simp only [Value.slice.injEq] at hv
    exact ⟨g', off', hv.1⟩

theorem out_lt {L : Nat → Nat} {Z : Nat → Nat → Nat} {tx m n : Nat} {Bn : Nat → Nat} (h1 : ∀ r c, r < n → c < L r → Z r c < n) (h2 : ∀ i, i < m → Bn i < n) : ∀ u v, u < n → v ∈ out (adjOf L Z) tx (lst m Bn) u → v < n := by
  intro u v hu hv
  unfold out at hv
  by_cases e : u = tx
  · rw [if_pos e] at hv
    obtain ⟨i, hi, rfl⟩ := lst_mem.1 hv
    exact h2 i hi
  · rw [if_neg e] at hv
    obtain ⟨i, hi, rfl⟩ := lst_mem.1 hv
    exact h1 u i hu hi
theorem out_len {L : Nat → Nat} {Z : Nat → Nat → Nat} {tx m : Nat} {Bn : Nat → Nat} (u : Nat) (h1 : L u ≤ 131072) (h2 : m ≤ 131072) : (out (adjOf L Z) tx (lst m Bn) u).length ≤ 131072 := by
  unfold out
  by_cases e : u = tx
  · rw [if_pos e, lst_length]; exact h2
  · rw [if_neg e]
    unfold adjOf
    rw [lst_length]; exact h1

end Go.Proofs.Qxb6616799a
