/-
  pathTo (24), seat b6616799a.
-/
import Derived.Test.Qxb6616799aMap
namespace Go.Proofs.Qxb6616799a
open Go.RowKit Plain

/-- m cells of block g from off on, by their index. -/
def RowAt (w : World) (g off m : Nat) (f : Nat → Value) : Prop :=
  ∃ cur e, w.heap[g]? = some (.cells cur e (0, 0)) ∧ off + m ≤ cur.size ∧ ∀ i, i < m → cur[off + i]? = some (f i)
namespace RowAt
variable {w w' : World} {g off m : Nat} {f f' : Nat → Value}
theorem cell (h : RowAt w g off m f) {i : Nat} (hi : i < m) : w.cell? ⟨g, off + i, none⟩ = some (f i) := by
  obtain ⟨cur, e, hb, _, hc⟩ := h
  simp [World.cell?, hb, hc i hi]
theorem free (h : RowAt w g off m f) (i : Nat) : w.frozen? ⟨g, i, none⟩ = false := by
  obtain ⟨cur, e, hb, _, _⟩ := h
  simp [World.frozen?, hb]
theorem lt (h : RowAt w g off m f) : g < w.heap.size := by
  obtain ⟨cur, e, hb, _⟩ := h
  exact (Array.getElem?_eq_some_iff.1 hb).1
theorem congr (h : RowAt w g off m f) (e : ∀ i, i < m → f i = f' i) : RowAt w g off m f' := by
  obtain ⟨cur, t, hb, h1, hc⟩ := h
  exact ⟨cur, t, hb, h1, fun i hi => by rw [hc i hi, e i hi]⟩
theorem block (h : RowAt w g off m f) (e : w'.heap[g]? = w.heap[g]?) : RowAt w' g off m f := by
  obtain ⟨cur, t, hb, r⟩ := h
  exact ⟨cur, t, e.trans hb, r⟩
theorem set (h : RowAt w g off m f) (i : Nat) (v : Value) : RowAt (w.setCell ⟨g, off + i, none⟩ v) g off m (fun j => if j = i then v else f j) := by
  obtain ⟨cur, t, hb, h1, hc⟩ := h
  refine ⟨cur.setIfInBounds (off + i) v, t, ?_, by simpa using h1, fun j hj => ?_⟩
  · simp [World.setCell, Array.getElem?_modify, hb]
  · rw [Array.getElem?_setIfInBounds]
    by_cases e : j = i
    · subst e
      rw [if_pos rfl, if_pos (by omega)]
      simp
    · rw [if_neg (by omega), hc j hj]
      simp [e]
end RowAt

theorem Has.rat {w : World} {lo : Nat} {e : TypeId} {v : Value} {xs : List Value} (h : Has w lo e v xs) (h0 : 0 < xs.length) :
    ∃ g off cap, v = .slice (some ⟨g, off, none⟩) xs.length cap ∧ lo ≤ g ∧ xs.length ≤ cap ∧ RowAt w g off xs.length (fun i => xs.getD i undef) := by
  rcases h with ⟨_, rfl⟩ | ⟨g, off, cap, cur, rfl, hl, hh, h1, h2, h3⟩
  · simp at h0
  · refine ⟨g, off, cap, rfl, hl, h1, cur, e, hh, by omega, fun i hi => ?_⟩
    rw [h3 i xs[i] (List.getElem?_eq_getElem hi)]
    simp [List.getD, hi]

/-- Behind k exchanges. -/
def revF (f : Nat → Value) (n k : Nat) : Nat → Value := fun p => if p < k ∨ n - k ≤ p then f (n - 1 - p) else f p
theorem revF_in {f : Nat → Value} {n k p : Nat} (h : p < k ∨ n - k ≤ p) : revF f n k p = f (n - 1 - p) := if_pos h
theorem revF_mid {f : Nat → Value} {n k p : Nat} (h : ¬ (p < k ∨ n - k ≤ p)) : revF f n k p = f p := if_neg h
theorem revF_step (f : Nat → Value) (n k p : Nat) (hk : 2 * k + 1 < n) (hp : p < n) :
    (if p = n - 1 - k then revF f n k k else if p = k then revF f n k (n - 1 - k) else revF f n k p) = revF f n (k + 1) p := by
  by_cases e1 : p = n - 1 - k
  · rw [if_pos e1, revF_in (p := p) (by omega), revF_mid (p := k) (by omega), show n - 1 - p = k by omega]
  · rw [if_neg e1]
    by_cases e2 : p = k
    · rw [if_pos e2, revF_in (p := p) (by omega), revF_mid (p := n - 1 - k) (by omega), e2]
    · rw [if_neg e2]
      by_cases e3 : p < k ∨ n - k ≤ p
      · rw [revF_in e3, revF_in (p := p) (by omega)]
      · rw [revF_mid e3, revF_mid (p := p) (by omega)]
theorem revF_end (f : Nat → Value) (n k p : Nat) (hk : n ≤ 2 * k + 1) (hp : p < n) : revF f n k p = f (n - 1 - p) := by
  by_cases e3 : p < k ∨ n - k ≤ p
  · exact revF_in e3
  · rw [revF_mid e3]
    congr 1
    omega

/-- The two stores of one exchange. -/
theorem RowAt.exchange {w wr : World} {g off m k : Nat} {f : Nat → Value} (hs : w.Since w.heap.size wr) (hg : w.heap.size ≤ g) (h : RowAt wr g off m (revF f m k)) (hk : 2 * k + 1 < m) :
    w.Since w.heap.size ((wr.setCell ⟨g, off + k, none⟩ (revF f m k (m - 1 - k))).setCell ⟨g, off + (m - 1 - k), none⟩ (revF f m k k)).drew ∧
    RowAt ((wr.setCell ⟨g, off + k, none⟩ (revF f m k (m - 1 - k))).setCell ⟨g, off + (m - 1 - k), none⟩ (revF f m k k)).drew g off m (revF f m (k + 1)) := by
  refine ⟨((hs.setCell (a := ⟨g, off + k, none⟩) hg _).setCell (a := ⟨g, off + (m - 1 - k), none⟩) hg _).drew, ?_⟩
  have := ((h.set k (revF f m k (m - 1 - k))).set (m - 1 - k) (revF f m k k)).congr (f' := revF f m (k + 1)) (fun p hp => by
    exact revF_step f m k p hk hp)
  exact this

/-- The values of a list of transactions. -/
def tps (T : Nat → Nat) (l : List Nat) : List Value := l.map (fun x => tp T x)
theorem tps_len (T : Nat → Nat) (l : List Nat) : (tps T l).length = l.length := by simp [tps]
theorem tps_snoc (T : Nat → Nat) (l : List Nat) (x : Nat) : tps T l ++ [tp T x] = tps T (l ++ [x]) := by simp [tps]
theorem tps_get {T : Nat → Nat} {l : List Nat} {i : Nat} (h : i < l.length) : (tps T l)[i]? = some (tp T l[i]) := by simp [tps, h]
theorem tps_getD {T : Nat → Nat} {l : List Nat} {i : Nat} (h : i < l.length) : (tps T l).getD i undef = tp T (l.getD i 0) := by simp [tps, List.getD, h]

theorem po_some (T : Nat → Nat) (y : Nat) : po T (some y) = .pointer (some ⟨T y, 0, none⟩) := rfl
theorem po_none (T : Nat → Nat) : po T none = .pointer none := rfl

set_option maxHeartbeats 2000000 in
set_option maxRecDepth 100000 in
theorem path_walk (M n u : Nat) (T : Nat → Nat) (fr : Nat → Option (Option Nat)) (l : List Nat) (w : World) (hM : MapIs w M T n fr) (hT : Txns w T n) (hc : Chain fr l (some u)) (hl : ∀ x ∈ l, x < n) (hll : l.length ≤ 131072) :
    Calls Try.prog 24 #[.map (some M), .pointer (some ⟨T u, 0, none⟩)] w fun e w' => ∃ g off cap, e = .returned (.slice (some ⟨g, off, none⟩) l.length cap) ∧ l.length ≤ cap ∧ w.heap.size ≤ g ∧
      RowAt w' g off l.length (fun i => tp T (l.getD (l.length - 1 - i) 0)) ∧ w.Since w.heap.size w' := by
  obtain ⟨i0, hi0, hz0, hz1, hz2⟩ := info_parts Try.info36
  go_enter Try.func24, Try.ntmps24
  go_wp2
  go_loopg [1, 5] l.length (fun g su sp wr => ∃ (done rest : List Nat) (o : Option Nat), l = done ++ rest ∧ g = rest.length ∧ su = po T o ∧ Chain fr rest o ∧ Has wr w.heap.size 36 sp (tps T done) ∧ w.Since w.heap.size wr)
  case atStart => exact ⟨[], l, some u, rfl, rfl, rfl, hc, Has.nil _ _ _, World.Since.refl _ _⟩
  obtain ⟨done, rest, o, hld, rfl, rfl, hch, hH, hS⟩ := hrel
  have HL : Hid (l = done ++ rest) := hld
  clear hld
  cases rest with
  | cons x rest =>
    obtain ⟨rfl, p, hp, hch'⟩ := hch
    have hxn : x < n := hl x (by rw [HL.out]; simp)
    have hdl : done.length < l.length := by rw [HL.out]; simp
    have hcx := box_cell wr (tp T x) 36 wr.heap.size rfl
    have hlen : ((tps T done).length + 1) * 8 ≤ 140737488355328 := by rw [tps_len]; omega
    have hsz := hS.size
    have szb : w.heap.size ≤ (wr.alloc (.cells #[tp T x] 36)).heap.size := by simp; omega
    rw [po_some]
    go_wp2_with (at_builtin; refine wpList_append_has _ rfl (.tmp 13) (.tmp 15) 35 rfl w.heap.size 36 i0 (.pointer none) Try.underlying35 hi0 hz0 hz1 hz2 rfl _ _ rfl (hH.alloc _) ⟨wr.heap.size, 0, none⟩ 1 (.pointer (some ⟨T x, 0, none⟩)) rfl hcx rfl hlen szb ?_; intro v' w1 hH1 hg1 hloc; have hS1 : w.Since w.heap.size w1 := (hS.alloc hsz _).grown hg1 szb (fun k hk => (hH.own hk).1); have hlk : (Instr.lookup 93 (.map (some M)) (.pointer (some ⟨T x, 0, none⟩)) false).run Try.prog w1 = .ok (po T p) w1 := (hM.block (hS1.block _ hM.lt)).look_some (hT.since (Nat.le_refl _) hS1) hxn hp false)
    rw [tps_snoc] at hH1
    go_roundg rest.length
    case measure => simp
    case rel => exact ⟨done ++ [x], rest, p, by rw [HL.out]; simp, rfl, rfl, hch', hH1, hS1⟩
  | nil =>
    obtain rfl : o = none := hch
    have hld : done = l := by rw [HL.out]; simp
    have hl0 : 0 < l.length := by
      obtain ⟨l', rfl⟩ := hc.head
      simp
    obtain ⟨g, off, cap, rfl, hgB, hcap, hR⟩ := hH.rat (by rw [tps_len, hld]; exact hl0)
    rw [tps_len, hld] at hcap hR ⊢
    rw [po_none]
    clear hH HL hM hT hc hl
    go_wp2
    go_loopg [6, 7] l.length (fun q i j wx => ∃ k : Nat, 2 * k ≤ l.length ∧ q = l.length - k ∧ i = .int .i64 k ∧ j = .int .i64 ((l.length : Int) - 1 - k) ∧ w.Since w.heap.size wx ∧ RowAt wx g off l.length (revF (fun i => (tps T l).getD i undef) l.length k))
    case atStart => exact ⟨0, Nat.zero_le _, rfl, rfl, by go_num, hS, hR.congr (fun p hp => (revF_mid (f := fun i => (tps T l).getD i undef) (n := l.length) (k := 0) (p := p) (by omega)).symm)⟩
    case round =>
      clear hS hR
      obtain ⟨k, hk, rfl, rfl, rfl, hS, hR⟩ := hrel
      by_cases hlt : 2 * k + 1 < l.length
      · have hlt' : (k : Int) < (l.length : Int) - 1 - k := by omega
        have hE := RowAt.exchange hS hgB hR hlt
        have c1 := hR.cell (i := k) (by omega)
        have c2 := hR.cell (i := l.length - 1 - k) (by omega)
        have f1 := hR.free (off + k)
        have f2 := hR.free (off + (l.length - 1 - k))
        have d1 : revF (fun i => (tps T l).getD i undef) l.length k k = tp T (l.getD k 0) := by rw [revF_mid (by omega)]; exact tps_getD (by omega)
        have d2 : revF (fun i => (tps T l).getD i undef) l.length k (l.length - 1 - k) = tp T (l.getD (l.length - 1 - k) 0) := by rw [revF_mid (by omega)]; exact tps_getD (by omega)
        rw [d1] at c1 hE
        rw [d2] at c2 hE
        clear d1 d2 hR
        generalize l.getD k 0 = y1 at c1 hE
        generalize l.getD (l.length - 1 - k) 0 = y2 at c2 hE
        have l1 : (k : Int) < (l.length : Int) := by omega
        have l2 : (l.length : Int) - 1 - k < (l.length : Int) := by omega
        have l3 : (0 : Int) ≤ (l.length : Int) - 1 - k := by omega
        have e2 : ((l.length : Int) - 1 - k).toNat = l.length - 1 - k := by omega
        go_wp2_with fail
        go_region
        go_wp2
        go_roundg (l.length - (k + 1))
        case measure => omega
        case rel => exact ⟨k + 1, by omega, rfl, by go_num, by go_num, hE.1, hE.2⟩
      · have hlt' : ¬ (k : Int) < (l.length : Int) - 1 - k := by omega
        go_wp2
        go_ret
        refine ⟨g, off, cap, rfl, hcap, hgB, hR.congr (fun p hp => ?_), hS⟩
        rw [revF_end _ _ _ _ (by omega) hp, tps_getD (by omega)]
        rfl

end Go.Proofs.Qxb6616799a
