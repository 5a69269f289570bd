/-
  PLAIN MATHEMATICS for 'Rows.FnShortestCycleIsAShortestWaitCycleSaid' (seat b6616799a): no Go in sight.
  One search by breadth ('Scan', 'Mid') serves both the program's own search and the law's search backwards; the counting sort of the edges; the least cycle.
-/
namespace Go.Proofs.Qxb6616799a.Plain

/-! ### 1. A search by breadth -/

/-- x is reached from s in just i steps. -/
def F (nb : Nat → List Nat) (s : Nat) : Nat → Nat → Prop
  | 0, x => x = s
  | i + 1, x => ∃ y, F nb s i y ∧ x ∈ nb y

/-- While the neighbours of u are looked at ('done' of them so far): P the vertices dealt with, Q the queue behind u, d the distances found. -/
structure Scan (nb : Nat → List Nat) (s : Nat) (P : List Nat) (u : Nat) (done Q : List Nat) (d : Nat → Option Nat) (du : Nat) : Prop where
  src : d s = some 0
  cur : d u = some du
  cover : ∀ x k, d x = some k → x ∈ P ∨ x = u ∨ x ∈ Q
  queue : ∀ q ∈ Q, ∃ k, d q = some k ∧ du ≤ k ∧ k ≤ du + 1
  sorted : Q.Pairwise (fun a b => ∀ i j, d a = some i → d b = some j → i ≤ j)
  past : ∀ p ∈ P, ∃ k, d p = some k ∧ k ≤ du ∧ ∀ v ∈ nb p, ∃ k', d v = some k' ∧ k' ≤ k + 1
  now : ∀ v ∈ done, ∃ k', d v = some k' ∧ k' ≤ du + 1
  sound : ∀ x k, d x = some k → F nb s k x

/-- Between two vertices. -/
structure Mid (nb : Nat → List Nat) (s : Nat) (P Q : List Nat) (d : Nat → Option Nat) : Prop where
  src : d s = some 0
  cover : ∀ x k, d x = some k → x ∈ P ∨ x ∈ Q
  queue : ∀ q ∈ Q, ∃ k, d q = some k
  spread : ∀ q ∈ Q, ∀ q' ∈ Q, ∀ i j, d q = some i → d q' = some j → j ≤ i + 1
  sorted : Q.Pairwise (fun a b => ∀ i j, d a = some i → d b = some j → i ≤ j)
  past : ∀ p ∈ P, ∃ k, d p = some k ∧ (∀ q ∈ Q, ∀ j, d q = some j → k ≤ j) ∧ ∀ v ∈ nb p, ∃ k', d v = some k' ∧ k' ≤ k + 1
  sound : ∀ x k, d x = some k → F nb s k x

/-- The distances at the start. -/
def d0 (s : Nat) : Nat → Option Nat := fun x => if x = s then some 0 else none
/-- One distance more. -/
def put (d : Nat → Option Nat) (v k : Nat) : Nat → Option Nat := fun x => if x = v then some k else d x

theorem d0_some {s x k : Nat} (h : d0 s x = some k) : x = s ∧ k = 0 := by
  unfold d0 at h
  by_cases e : x = s
  · rw [if_pos e] at h; cases h; exact ⟨e, rfl⟩
  · rw [if_neg e] at h; cases h

section
variable {nb : Nat → List Nat} {s : Nat} {P : List Nat} {u : Nat} {done Q : List Nat} {d : Nat → Option Nat} {du : Nat}

theorem Scan.init (nb : Nat → List Nat) (s : Nat) : Scan nb s [] s [] [] (d0 s) 0 := by
  refine ⟨by simp [d0], by simp [d0], fun x k h => .inr (.inl (d0_some h).1), by simp, List.Pairwise.nil, by simp, by simp, fun x k h => ?_⟩
  obtain ⟨rfl, rfl⟩ := d0_some h
  exact rfl

theorem Mid.init (nb : Nat → List Nat) (s : Nat) : Mid nb s [] [s] (d0 s) := by
  refine ⟨by simp [d0], fun x k h => .inr (by simp [(d0_some h).1]), fun q hq => ⟨0, by simp at hq; simp [d0, hq]⟩, fun q hq q' hq' i j hi hj => ?_, by simp, by simp, fun x k h => ?_⟩
  · have := (d0_some hj).2; omega
  · obtain ⟨rfl, rfl⟩ := d0_some h
    exact rfl

/-- The next vertex of the queue is taken. -/
theorem Mid.start (h : Mid nb s P (u :: Q) d) : ∃ du, Scan nb s P u [] Q d du := by
  obtain ⟨du, hdu⟩ := h.queue u (by simp)
  have hs := List.pairwise_cons.1 h.sorted
  refine ⟨du, h.src, hdu, fun x k hx => ?_, fun q hq => ?_, hs.2, fun p hp => ?_, by simp, h.sound⟩
  · rcases h.cover x k hx with hP | hQ
    · exact .inl hP
    · rcases List.mem_cons.1 hQ with e | hQ
      · exact .inr (.inl e)
      · exact .inr (.inr hQ)
  · obtain ⟨k, hk⟩ := h.queue q (by simp [hq])
    exact ⟨k, hk, hs.1 q hq du k hdu hk, h.spread u (by simp) q (by simp [hq]) du k hdu hk⟩
  · obtain ⟨k, hk, h1, h2⟩ := h.past p hp
    exact ⟨k, hk, h1 u (by simp) du hdu, h2⟩

/-- All neighbours of u have been looked at. -/
theorem Scan.close (h : Scan nb s P u done Q d du) (hd : ∀ v ∈ nb u, v ∈ done) : Mid nb s (P ++ [u]) Q d := by
  refine ⟨h.src, fun x k hx => ?_, fun q hq => ?_, fun q hq q' hq' i j hi hj => ?_, h.sorted, fun p hp => ?_, h.sound⟩
  · rcases h.cover x k hx with hP | rfl | hQ
    · exact .inl (by simp [hP])
    · exact .inl (by simp)
    · exact .inr hQ
  · obtain ⟨k, hk, _⟩ := h.queue q hq
    exact ⟨k, hk⟩
  · obtain ⟨a, ha, h1, h2⟩ := h.queue q hq
    obtain ⟨b, hb, h3, h4⟩ := h.queue q' hq'
    rw [hi] at ha; rw [hj] at hb; cases ha; cases hb
    omega
  · rcases List.mem_append.1 hp with hp | hp
    · obtain ⟨k, hk, h1, h2⟩ := h.past p hp
      refine ⟨k, hk, fun q hq j hj => ?_, h2⟩
      obtain ⟨a, ha, h3, h4⟩ := h.queue q hq
      rw [hj] at ha; cases ha
      omega
    · obtain rfl : p = u := by simpa using hp
      refine ⟨du, h.cur, fun q hq j hj => ?_, fun v hv => h.now v (hd v hv)⟩
      obtain ⟨a, ha, h3, h4⟩ := h.queue q hq
      rw [hj] at ha; cases ha
      exact h3

/-- A neighbour that was met before. -/
theorem Scan.old (h : Scan nb s P u done Q d du) {v k : Nat} (hv : d v = some k) : Scan nb s P u (done ++ [v]) Q d du := by
  refine ⟨h.src, h.cur, h.cover, h.queue, h.sorted, h.past, fun x hx => ?_, h.sound⟩
  rcases List.mem_append.1 hx with hx | hx
  · exact h.now x hx
  · obtain rfl : x = v := by simpa using hx
    refine ⟨k, hv, ?_⟩
    rcases h.cover x k hv with hP | rfl | hQ
    · obtain ⟨a, ha, h1, _⟩ := h.past x hP
      rw [hv] at ha; cases ha
      omega
    · have := h.cur
      rw [hv] at this; cases this
      omega
    · obtain ⟨a, ha, _, h2⟩ := h.queue x hQ
      rw [hv] at ha; cases ha
      exact h2

theorem put_old {d : Nat → Option Nat} {v k x j : Nat} (hv : d v = none) (h : d x = some j) : put d v k x = some j := by
  unfold put
  rw [if_neg (fun e => by rw [e, hv] at h; cases h)]
  exact h

theorem pairwise_turn {p q : Nat → Nat → Prop} : ∀ {l : List Nat}, l.Pairwise p → (∀ a ∈ l, ∀ b ∈ l, p a b → q a b) → l.Pairwise q
  | [], _, _ => List.Pairwise.nil
  | x :: l, h, hq => by
    obtain ⟨h1, h2⟩ := List.pairwise_cons.1 h
    exact List.pairwise_cons.2 ⟨fun b hb => hq x (by simp) b (by simp [hb]) (h1 b hb), pairwise_turn h2 (fun a ha b hb => hq a (by simp [ha]) b (by simp [hb]))⟩

/-- A neighbour that is met for the first time. -/
theorem Scan.new (h : Scan nb s P u done Q d du) {v : Nat} (hv : d v = none) (hn : v ∈ nb u) : Scan nb s P u (done ++ [v]) (Q ++ [v]) (put d v (du + 1)) du := by
  have keep : ∀ {x j}, d x = some j → put d v (du + 1) x = some j := fun hx => put_old hv hx
  have self : put d v (du + 1) v = some (du + 1) := by simp [put]
  have back : ∀ {x j}, x ≠ v → put d v (du + 1) x = some j → d x = some j := fun hx hj => by simpa [put, hx] using hj
  have hvQ : v ∉ Q := fun hq => by
    obtain ⟨k, hk, _⟩ := h.queue v hq
    rw [hv] at hk; cases hk
  refine ⟨keep h.src, keep h.cur, fun x k hx => ?_, fun q hq => ?_, ?_, fun p hp => ?_, fun x hx => ?_, fun x k hx => ?_⟩
  · by_cases e : x = v
    · exact .inr (.inr (by simp [e]))
    · rcases h.cover x k (back e hx) with hP | h2 | hQ
      · exact .inl hP
      · exact .inr (.inl h2)
      · exact .inr (.inr (by simp [hQ]))
  · rcases List.mem_append.1 hq with hq | hq
    · obtain ⟨k, hk, h1, h2⟩ := h.queue q hq
      exact ⟨k, keep hk, h1, h2⟩
    · obtain rfl : q = v := by simpa using hq
      exact ⟨du + 1, self, by omega, by omega⟩
  · rw [List.pairwise_append]
    refine ⟨?_, by simp, fun a ha b hb i j hi hj => ?_⟩
    · refine pairwise_turn h.sorted (fun a ha b hb hab i j hi hj => ?_)
      exact hab i j (back (fun e => hvQ (e ▸ ha)) hi) (back (fun e => hvQ (e ▸ hb)) hj)
    · obtain rfl : b = v := by simpa using hb
      rw [self] at hj; cases hj
      obtain ⟨k, hk, _, h2⟩ := h.queue a ha
      rw [keep hk] at hi; cases hi
      exact h2
  · obtain ⟨k, hk, h1, h2⟩ := h.past p hp
    refine ⟨k, keep hk, h1, fun x hx => ?_⟩
    obtain ⟨k', hk', h3⟩ := h2 x hx
    exact ⟨k', keep hk', h3⟩
  · rcases List.mem_append.1 hx with hx | hx
    · obtain ⟨k', hk', h3⟩ := h.now x hx
      exact ⟨k', keep hk', h3⟩
    · obtain rfl : x = v := by simpa using hx
      exact ⟨du + 1, self, Nat.le_refl _⟩
  · by_cases e : x = v
    · subst e
      rw [self] at hx; cases hx
      exact ⟨u, h.sound u du h.cur, hn⟩
    · exact h.sound x k (back e hx)

/-- Whatever can be reached in no more steps than u has been reached, and is no farther than that. -/
theorem Scan.complete (h : Scan nb s P u done Q d du) : ∀ i x, F nb s i x → i ≤ du → ∃ k, d x = some k ∧ k ≤ i
  | 0, x, hx, _ => by
    obtain rfl : x = s := hx
    exact ⟨0, h.src, Nat.le_refl _⟩
  | i + 1, x, hx, hi => by
    obtain ⟨y, hy, hxy⟩ := hx
    obtain ⟨k, hk, hki⟩ := h.complete i y hy (by omega)
    rcases h.cover y k hk with hP | rfl | hQ
    · obtain ⟨a, ha, _, h2⟩ := h.past y hP
      rw [hk] at ha; cases ha
      obtain ⟨k', hk', h3⟩ := h2 x hxy
      exact ⟨k', hk', by omega⟩
    · have := h.cur
      rw [hk] at this; cases this
      omega
    · obtain ⟨a, ha, h1, _⟩ := h.queue y hQ
      rw [hk] at ha; cases ha
      omega

/-- A vertex that is nearer than u has been dealt with. -/
theorem Scan.dealt (h : Scan nb s P u done Q d du) {x k : Nat} (hx : d x = some k) (hk : k < du) : x ∈ P := by
  rcases h.cover x k hx with hP | rfl | hQ
  · exact hP
  · have := h.cur
    rw [hx] at this; cases this
    omega
  · obtain ⟨a, ha, h1, _⟩ := h.queue x hQ
    rw [hx] at ha; cases ha
    omega

/-- The search has come to its end. -/
theorem Mid.complete (h : Mid nb s P [] d) : ∀ i x, F nb s i x → ∃ k, d x = some k ∧ k ≤ i
  | 0, x, hx => by
    obtain rfl : x = s := hx
    exact ⟨0, h.src, Nat.le_refl _⟩
  | i + 1, x, hx => by
    obtain ⟨y, hy, hxy⟩ := hx
    obtain ⟨k, hk, hki⟩ := h.complete i y hy
    rcases h.cover y k hk with hP | hQ
    · obtain ⟨a, ha, _, h2⟩ := h.past y hP
      rw [hk] at ha; cases ha
      obtain ⟨k', hk', h3⟩ := h2 x hxy
      exact ⟨k', hk', by omega⟩
    · cases hQ
end

/-! ### 2. Waits and cycles -/

/-- What u waits for. -/
def out (adj : Nat → List Nat) (tx : Nat) (bl : List Nat) (u : Nat) : List Nat := if u = tx then bl else adj u
/-- u comes to tx in k steps, tx being no step's beginning. -/
def R (adj : Nat → List Nat) (tx : Nat) : Nat → Nat → Prop
  | 0, u => u = tx
  | k + 1, u => u ≠ tx ∧ ∃ v, v ∈ adj u ∧ R adj tx k v
/-- A cycle through tx of j + 1 waits. -/
def Cyc (adj : Nat → List Nat) (tx : Nat) (bl : List Nat) (j : Nat) : Prop := ∃ b, b ∈ bl ∧ R adj tx j b
/-- The least such j. -/
def IsMin (cyc : Nat → Prop) : Option Nat → Prop
  | none => ∀ j, ¬ cyc j
  | some m => cyc m ∧ ∀ j, cyc j → m ≤ j

theorem IsMin.same {cyc : Nat → Prop} : ∀ {a b : Option Nat}, IsMin cyc a → IsMin cyc b → a = b
  | none, none, _, _ => rfl
  | none, some _, h1, h2 => absurd h2.1 (h1 _)
  | some _, none, h1, h2 => absurd h1.1 (h2 _)
  | some a, some b, h1, h2 => by
    have := h1.2 _ h2.1
    have := h2.2 _ h1.1
    exact congrArg some (by omega)

section
variable {adj : Nat → List Nat} {tx : Nat} {bl : List Nat}

theorem shift : ∀ (j i u v : Nat), F (out adj tx bl) tx i u → v ∈ out adj tx bl u → R adj tx j v → ∃ x, F (out adj tx bl) tx (i + j) x ∧ tx ∈ out adj tx bl x
  | 0, i, u, v, hu, hv, hr => by
    obtain rfl : v = tx := hr
    exact ⟨u, hu, hv⟩
  | j + 1, i, u, v, hu, hv, hr => by
    obtain ⟨hne, v', hv', hr'⟩ := hr
    have := shift j (i + 1) v v' ⟨u, hu, hv⟩ (by unfold out; rw [if_neg hne]; exact hv') hr'
    rwa [show i + 1 + j = i + (j + 1) by omega] at this

theorem Cyc.forward {j : Nat} (h : Cyc adj tx bl j) : ∃ x, F (out adj tx bl) tx j x ∧ tx ∈ out adj tx bl x := by
  obtain ⟨b, hb, hr⟩ := h
  have := shift (bl := bl) j 0 tx b rfl (by unfold out; rw [if_pos rfl]; exact hb) hr
  rwa [Nat.zero_add] at this

/-- A path from tx, its last vertex first. -/
def Edges (adj : Nat → List Nat) (tx : Nat) (bl : List Nat) : List Nat → Prop
  | [] => False
  | [x] => x = tx
  | x :: y :: l => x ≠ tx ∧ x ∈ out adj tx bl y ∧ Edges adj tx bl (y :: l)

theorem Edges.cyc : ∀ (l : List Nat) (x j v : Nat), Edges adj tx bl (x :: l) → v ∈ out adj tx bl x → R adj tx j v → Cyc adj tx bl (j + l.length)
  | [], x, j, v, h, hv, hr => by
    obtain rfl : x = tx := h
    refine ⟨v, ?_, hr⟩
    simpa [out] using hv
  | y :: l, x, j, v, h, hv, hr => by
    obtain ⟨hne, hxy, h'⟩ := h
    have hr' : R adj tx (j + 1) x := ⟨hne, v, by simpa [out, hne] using hv, hr⟩
    have := Edges.cyc l y (j + 1) x h' hxy hr'
    rw [List.length_cons]
    rwa [show j + 1 + l.length = j + (l.length + 1) by omega] at this

/-- The map 'from': following it from o to nil one meets just l. -/
def Chain (fr : Nat → Option (Option Nat)) : List Nat → Option Nat → Prop
  | [], o => o = none
  | x :: l, o => o = some x ∧ ∃ p, fr x = some p ∧ Chain fr l p

theorem Chain.mono {fr fr' : Nat → Option (Option Nat)} (h : ∀ x p, fr x = some p → fr' x = some p) : ∀ {l : List Nat} {o : Option Nat}, Chain fr l o → Chain fr' l o
  | [], _, hc => hc
  | x :: _, _, ⟨ho, p, hp, hl⟩ => ⟨ho, p, h x p hp, Chain.mono h hl⟩

theorem Chain.edges {fr : Nat → Option (Option Nat)} (h1 : ∀ x, fr x = some none → x = tx) (h2 : ∀ x p, fr x = some (some p) → x ≠ tx ∧ x ∈ out adj tx bl p) :
    ∀ {l : List Nat} {u : Nat}, Chain fr l (some u) → Edges adj tx bl l
  | [], _, h => by cases h
  | x :: l, u, ⟨ho, p, hp, hl⟩ => by
    cases p with
    | none =>
      cases l with
      | nil => exact h1 x hp
      | cons _ _ => cases hl.1
    | some p =>
      have he := Chain.edges h1 h2 hl
      cases l with
      | nil => cases hl
      | cons y l =>
        obtain rfl : p = y := by simpa using hl.1
        exact ⟨(h2 x p hp).1, (h2 x p hp).2, he⟩

theorem Chain.head {fr : Nat → Option (Option Nat)} {l : List Nat} {u : Nat} (h : Chain fr l (some u)) : ∃ l', l = u :: l' := by
  cases l with
  | nil => cases h
  | cons x l => exact ⟨l, by rw [show x = u by simpa using h.1.symm]⟩
end

/-! ### 3. The program's own search: the map 'from' beside the distances -/

/-- The map at the start. -/
def fr0 (tx : Nat) : Nat → Option (Option Nat) := fun x => if x = tx then some none else none
/-- One entry more. -/
def putF (fr : Nat → Option (Option Nat)) (v u : Nat) : Nat → Option (Option Nat) := fun x => if x = v then some (some u) else fr x

structure Fwd (adj : Nat → List Nat) (tx : Nat) (bl : List Nat) (fr : Nat → Option (Option Nat)) (d : Nat → Option Nat) : Prop where
  same : ∀ x, fr x = none ↔ d x = none
  root : ∀ x, fr x = some none → x = tx
  edge : ∀ x p, fr x = some (some p) → x ≠ tx ∧ x ∈ out adj tx bl p
  chain : ∀ x k, d x = some k → ∃ l, Chain fr l (some x) ∧ l.length = k + 1

section
variable {adj : Nat → List Nat} {tx : Nat} {bl : List Nat} {fr : Nat → Option (Option Nat)} {d : Nat → Option Nat}

theorem Fwd.init (adj : Nat → List Nat) (tx : Nat) (bl : List Nat) : Fwd adj tx bl (fr0 tx) (d0 tx) := by
  refine ⟨fun x => ?_, fun x h => ?_, fun x p h => ?_, fun x k h => ?_⟩
  · unfold fr0 d0
    by_cases e : x = tx <;> simp [e]
  · unfold fr0 at h
    by_cases e : x = tx
    · exact e
    · rw [if_neg e] at h; cases h
  · unfold fr0 at h
    by_cases e : x = tx
    · rw [if_pos e] at h; cases h
    · rw [if_neg e] at h; cases h
  · obtain ⟨rfl, rfl⟩ := d0_some h
    exact ⟨[x], ⟨rfl, none, by simp [fr0], rfl⟩, rfl⟩

theorem Fwd.new (h : Fwd adj tx bl fr d) {u v du : Nat} (hv : d v = none) (hne : v ≠ tx) (hu : d u = some du) (hn : v ∈ out adj tx bl u) :
    Fwd adj tx bl (putF fr v u) (put d v (du + 1)) := by
  have hfv : fr v = none := (h.same v).2 hv
  have keep : ∀ x p, fr x = some p → putF fr v u x = some p := fun x p hx => by
    unfold putF
    rw [if_neg (fun e => by rw [e, hfv] at hx; cases hx)]
    exact hx
  refine ⟨fun x => ?_, fun x hx => ?_, fun x p hx => ?_, fun x k hx => ?_⟩
  · unfold putF put
    by_cases e : x = v
    · simp [e]
    · rw [if_neg e, if_neg e]; exact h.same x
  · unfold putF at hx
    by_cases e : x = v
    · rw [if_pos e] at hx; cases hx
    · rw [if_neg e] at hx; exact h.root x hx
  · unfold putF at hx
    by_cases e : x = v
    · rw [if_pos e] at hx
      obtain rfl : u = p := by simpa using hx
      rw [e]
      exact ⟨hne, hn⟩
    · rw [if_neg e] at hx; exact h.edge x p hx
  · unfold put at hx
    by_cases e : x = v
    · rw [if_pos e] at hx
      obtain rfl : du + 1 = k := by simpa using hx
      obtain ⟨l, hl, hlen⟩ := h.chain u du hu
      refine ⟨x :: l, ⟨rfl, some u, by simp [putF, e], hl.mono keep⟩, by simp [hlen]⟩
    · rw [if_neg e] at hx
      obtain ⟨l, hl, hlen⟩ := h.chain x k hx
      exact ⟨l, hl.mono keep, hlen⟩

/-- The search has met tx again, from u: the path to u is a least cycle. -/
theorem Fwd.hit {P : List Nat} {u : Nat} {done Q : List Nat} {du : Nat} (h : Fwd adj tx bl fr d) (hI : Scan (out adj tx bl) tx P u done Q d du) (hP : ∀ p ∈ P, tx ∉ out adj tx bl p) (ht : tx ∈ out adj tx bl u) :
    ∃ l, Chain fr l (some u) ∧ Edges adj tx bl l ∧ l.length = du + 1 ∧ IsMin (Cyc adj tx bl) (some du) := by
  obtain ⟨l, hl, hlen⟩ := h.chain u du hI.cur
  have he := hl.edges (adj := adj) (bl := bl) h.root h.edge
  obtain ⟨l', rfl⟩ := hl.head
  refine ⟨u :: l', hl, he, hlen, ?_, fun j hj => ?_⟩
  · have := Edges.cyc l' u 0 tx he ht rfl
    rwa [show 0 + l'.length = du by simp at hlen; omega] at this
  · by_cases hlt : j < du
    · obtain ⟨x, hx, htx⟩ := hj.forward
      obtain ⟨k, hk, hkj⟩ := hI.complete j x hx (by omega)
      exact absurd htx (hP x (hI.dealt hk (by omega)))
    · omega

/-- The queue is empty: there is no cycle. -/
theorem Fwd.miss {P : List Nat} (hM : Mid (out adj tx bl) tx P [] d) (hP : ∀ p ∈ P, tx ∉ out adj tx bl p) : IsMin (Cyc adj tx bl) none := by
  intro j hj
  obtain ⟨x, hx, htx⟩ := hj.forward
  obtain ⟨k, hk, _⟩ := hM.complete j x hx
  rcases hM.cover x k hk with h | h
  · exact hP x h htx
  · cases h

theorem Edges.wait : ∀ {l : List Nat}, Edges adj tx bl l → ∀ i, i + 1 < l.length → l.getD i 0 ∈ out adj tx bl (l.getD (i + 1) 0)
  | [], h, _, _ => by cases h
  | [x], _, i, hi => by simp at hi
  | x :: y :: l, h, 0, _ => by simpa using h.2.1
  | x :: y :: l, h, i + 1, hi => by
    have := Edges.wait h.2.2 i (by simpa using hi)
    simpa using this
theorem Edges.last : ∀ {l : List Nat}, Edges adj tx bl l → l.getD (l.length - 1) 0 = tx
  | [], h => by cases h
  | [x], h => h
  | x :: y :: l, h => by simpa using Edges.last h.2.2
theorem Edges.bound {n : Nat} (ht : tx < n) (hb : ∀ u v, u < n → v ∈ out adj tx bl u → v < n) : ∀ {l : List Nat}, Edges adj tx bl l → ∀ i, i < l.length → l.getD i 0 < n
  | [], h, _, _ => by cases h
  | [x], h, i, hi => by
    obtain rfl : i = 0 := by simp at hi; exact hi
    obtain rfl : x = tx := h
    simpa using ht
  | x :: y :: l, h, 0, _ => by
    have := Edges.bound ht hb h.2.2 0 (by simp)
    exact hb y x (by simpa using this) h.2.1
  | x :: y :: l, h, i + 1, hi => by
    have := Edges.bound ht hb h.2.2 i (by simpa using hi)
    simpa using this
end

/-! ### 4. The search backwards: the edges, sorted by their ends -/

/-- Where the edges that end in v begin, in order. -/
def srcs (E : List (Nat × Nat)) (v : Nat) : List Nat := (E.filter (fun e => e.2 == v)).map (fun e => e.1)
/-- How many edges end below v. -/
def pre (E : List (Nat × Nat)) : Nat → Nat
  | 0 => 0
  | v + 1 => pre E v + (srcs E v).length

theorem srcs_append (E E' : List (Nat × Nat)) (v : Nat) : srcs (E ++ E') v = srcs E v ++ srcs E' v := by simp [srcs]
theorem srcs_same (u v : Nat) : srcs [(u, v)] v = [u] := by simp [srcs]
theorem srcs_other {u v x : Nat} (h : x ≠ v) : srcs [(u, v)] x = [] := by
  have h' : v ≠ x := fun e => h e.symm
  simp [srcs, h']
theorem mem_srcs {E : List (Nat × Nat)} {u v : Nat} : u ∈ srcs E v ↔ (u, v) ∈ E := by
  simp only [srcs, List.mem_map, List.mem_filter, beq_iff_eq]
  constructor
  · rintro ⟨⟨a, b⟩, ⟨h1, h2⟩, h3⟩
    simp only at h2 h3
    subst h2; subst h3
    exact h1
  · intro h
    exact ⟨(u, v), ⟨h, rfl⟩, rfl⟩

theorem pre_mono (E : List (Nat × Nat)) {a b : Nat} (h : a ≤ b) : pre E a ≤ pre E b := by
  induction b with
  | zero => obtain rfl : a = 0 := by omega
            exact Nat.le_refl _
  | succ b ih =>
    by_cases e : a = b + 1
    · rw [e]; exact Nat.le_refl _
    · have := ih (by omega)
      show pre E a ≤ pre E b + _
      omega
theorem pre_snoc (E : List (Nat × Nat)) (u v : Nat) : ∀ x, pre (E ++ [(u, v)]) x = pre E x + if v < x then 1 else 0
  | 0 => by simp [pre]
  | x + 1 => by
    show pre (E ++ [(u, v)]) x + _ = pre E x + (srcs E x).length + _
    rw [pre_snoc E u v x, srcs_append, List.length_append]
    by_cases e : x = v
    · subst e
      rw [srcs_same, if_neg (Nat.lt_irrefl _), if_pos (by omega)]
      simp only [List.length_cons, List.length_nil]
      omega
    · rw [srcs_other e]
      by_cases h : v < x
      · rw [if_pos h, if_pos (by omega)]; simp; omega
      · rw [if_neg h, if_neg (by omega)]; simp
theorem pre_total {n : Nat} (E : List (Nat × Nat)) (h : ∀ e ∈ E, e.2 < n) : pre E n = E.length := by
  have key : ∀ (l : List (Nat × Nat)), (∀ e ∈ l, e.2 < n) → pre l.reverse n = l.length := by
    intro l
    induction l with
    | nil =>
      intro _
      have : ∀ x, pre [] x = 0 := fun x => by
        induction x with
        | zero => rfl
        | succ x ih => show pre [] x + _ = 0; rw [ih]; rfl
      simp [this]
    | cons e l ih =>
      intro hl
      rw [List.reverse_cons, show [e] = [(e.1, e.2)] from rfl, pre_snoc, ih (fun x hx => hl x (by simp [hx])), if_pos (hl e (by simp))]
      simp
  have := key E.reverse (fun e he => h e (by simpa using he))
  simpa using this

/-- All edges that begin below u, but for those of tx. -/
def edgesTo (adj : Nat → List Nat) (tx : Nat) : Nat → List (Nat × Nat)
  | 0 => []
  | u + 1 => edgesTo adj tx u ++ if u = tx then [] else (adj u).map (fun v => (u, v))
/-- .. and the first k of u's own. -/
def edgesAt (adj : Nat → List Nat) (tx u k : Nat) : List (Nat × Nat) := edgesTo adj tx u ++ ((adj u).take k).map (fun v => (u, v))

section
variable {adj : Nat → List Nat} {tx : Nat}

theorem edgesAt_zero (u : Nat) : edgesAt adj tx u 0 = edgesTo adj tx u := by simp [edgesAt]
theorem edgesAt_full {u : Nat} (h : u ≠ tx) : edgesAt adj tx u (adj u).length = edgesTo adj tx (u + 1) := by
  simp [edgesAt, edgesTo, h]
theorem edgesTo_tx : edgesTo adj tx (tx + 1) = edgesTo adj tx tx := by simp [edgesTo]
theorem edgesAt_succ {u k : Nat} (h : k < (adj u).length) : edgesAt adj tx u (k + 1) = edgesAt adj tx u k ++ [(u, (adj u)[k])] := by
  simp only [edgesAt]
  rw [List.take_succ_eq_append_getElem h, List.map_append, ← List.append_assoc]
  rfl
theorem edgesTo_le {a b : Nat} (h : a ≤ b) : ∃ r, edgesTo adj tx b = edgesTo adj tx a ++ r := by
  induction b with
  | zero => obtain rfl : a = 0 := by omega
            exact ⟨[], by simp⟩
  | succ b ih =>
    by_cases e : a = b + 1
    · exact ⟨[], by simp [e]⟩
    · obtain ⟨r, hr⟩ := ih (by omega)
      exact ⟨r ++ if b = tx then [] else (adj b).map (fun v => (b, v)), by rw [← List.append_assoc, ← hr]; rfl⟩
/-- The edges that are still to come. -/
theorem edgesAt_rest {n u k : Nat} (hu : u < n) (hne : u ≠ tx) (hk : k < (adj u).length) : ∃ r, edgesTo adj tx n = edgesAt adj tx u k ++ (u, (adj u)[k]) :: r := by
  obtain ⟨r, hr⟩ := edgesTo_le (adj := adj) (tx := tx) (a := u + 1) (b := n) (by omega)
  refine ⟨((adj u).drop (k + 1)).map (fun v => (u, v)) ++ r, ?_⟩
  rw [hr]
  simp only [edgesTo, if_neg hne, edgesAt]
  have : (adj u).map (fun v => (u, v)) = ((adj u).take k).map (fun v => (u, v)) ++ (u, (adj u)[k]) :: ((adj u).drop (k + 1)).map (fun v => (u, v)) := by
    rw [← List.map_cons (f := fun v => (u, v)), ← List.map_append, ← List.drop_eq_getElem_cons hk, List.take_append_drop]
  rw [this]
  simp
theorem mem_edgesTo {u v : Nat} : ∀ {n : Nat}, (u, v) ∈ edgesTo adj tx n ↔ u < n ∧ u ≠ tx ∧ v ∈ adj u
  | 0 => by simp [edgesTo]
  | n + 1 => by
    rw [edgesTo, List.mem_append, mem_edgesTo (n := n)]
    by_cases e : n = tx
    · rw [if_pos e]
      constructor
      · rintro (h | h)
        · exact ⟨by omega, h.2⟩
        · cases h
      · rintro ⟨h1, h2, h3⟩
        exact .inl ⟨by omega, h2, h3⟩
    · rw [if_neg e]
      constructor
      · rintro (h | h)
        · exact ⟨by omega, h.2⟩
        · obtain ⟨a, ha, hab⟩ := List.mem_map.1 h
          simp only [Prod.mk.injEq] at hab
          obtain ⟨rfl, rfl⟩ := hab
          exact ⟨by omega, e, ha⟩
      · rintro ⟨h1, h2, h3⟩
        by_cases hu : u = n
        · exact .inr (List.mem_map.2 ⟨v, hu ▸ h3, by rw [hu]⟩)
        · exact .inl ⟨by omega, h2, h3⟩

/-- The array of beginnings, the edges E' sorted in. -/
def Filled (E E' : List (Nat × Nat)) (rv : Nat → Nat) : Prop := ∀ v j x, (srcs E' v)[j]? = some x → rv (pre E v + j) = x

theorem Filled.start (E : List (Nat × Nat)) (rv : Nat → Nat) : Filled E [] rv := fun v j x h => by simp [srcs] at h

theorem srcs_lt {E E' r : List (Nat × Nat)} {u v : Nat} (hE : E = E' ++ (u, v) :: r) : (srcs E' v).length < (srcs E v).length := by
  rw [hE, show E' ++ (u, v) :: r = E' ++ ([(u, v)] ++ r) from rfl, srcs_append, srcs_append, srcs_same]
  simp only [List.length_append, List.length_cons, List.length_nil]
  omega
theorem srcs_le {E E' r : List (Nat × Nat)} (hE : E = E' ++ r) (v : Nat) : (srcs E' v).length ≤ (srcs E v).length := by
  rw [hE, srcs_append]
  simp
theorem place_lt {E E' r : List (Nat × Nat)} {u v n : Nat} (hE : E = E' ++ (u, v) :: r) (hv : v < n) : pre E v + (srcs E' v).length < pre E n := by
  have h1 := srcs_lt hE
  have h2 : pre E (v + 1) ≤ pre E n := pre_mono E (by omega)
  have h3 : pre E (v + 1) = pre E v + (srcs E v).length := rfl
  omega

theorem Filled.step {E E' r : List (Nat × Nat)} {rv : Nat → Nat} {u v : Nat} (h : Filled E E' rv) (hE : E = E' ++ (u, v) :: r) :
    Filled E (E' ++ [(u, v)]) (fun p => if p = pre E v + (srcs E' v).length then u else rv p) := by
  intro v' j x hx
  have hlt := srcs_lt hE
  dsimp only
  by_cases e : v' = v
  · subst e
    rw [srcs_append, srcs_same] at hx
    by_cases hj : j < (srcs E' v').length
    · rw [List.getElem?_append_left hj] at hx
      rw [if_neg (by omega)]
      exact h v' j x hx
    · rw [List.getElem?_append_right (by omega)] at hx
      have hj2 : j - (srcs E' v').length = 0 := by
        by_cases h0 : j - (srcs E' v').length = 0
        · exact h0
        · rw [List.getElem?_eq_none (by simp; omega)] at hx; cases hx
      rw [hj2] at hx
      simp at hx
      rw [if_pos (by omega)]
      exact hx
  · rw [srcs_append, srcs_other e, List.append_nil] at hx
    have hj : j < (srcs E' v').length := by
      obtain ⟨hh, _⟩ := List.getElem?_eq_some_iff.1 hx
      exact hh
    have hle := srcs_le hE v'
    rw [if_neg]
    · exact h v' j x hx
    · intro heq
      by_cases hvv : v' < v
      · have h2 : pre E (v' + 1) ≤ pre E v := pre_mono E (by omega)
        have h3 : pre E (v' + 1) = pre E v' + (srcs E v').length := rfl
        omega
      · have h2 : pre E (v + 1) ≤ pre E v' := pre_mono E (by omega)
        have h3 : pre E (v + 1) = pre E v + (srcs E v).length := rfl
        omega

/-- Backwards: in k steps from tx is in k steps to tx. -/
theorem R_of_F {n : Nat} : ∀ (k x : Nat), F (srcs (edgesTo adj tx n)) tx k x → R adj tx k x
  | 0, _, h => h
  | k + 1, x, h => by
    obtain ⟨y, hy, hx⟩ := h
    obtain ⟨_, h2, h3⟩ := mem_edgesTo.1 (mem_srcs.1 hx)
    exact ⟨h2, y, h3, R_of_F k y hy⟩
theorem F_of_R {n : Nat} (hb : ∀ u v, u < n → v ∈ adj u → v < n) : ∀ (k x : Nat), x < n → R adj tx k x → F (srcs (edgesTo adj tx n)) tx k x
  | 0, _, _, h => h
  | k + 1, x, hx, h => by
    obtain ⟨h1, y, h2, h3⟩ := h
    exact ⟨y, F_of_R hb k y (hb x y hx h2) h3, mem_srcs.2 (mem_edgesTo.2 ⟨hx, h1, h2⟩)⟩
end

/-! ### 5. The least of the blockers' distances -/
def upd : Option Nat → Option Nat → Option Nat
  | o, none => o
  | none, some j => some j
  | some m, some j => if j < m then some j else some m
/-- The least distance among l. -/
def Best (d : Nat → Option Nat) (l : List Nat) (o : Option Nat) : Prop := IsMin (fun j => ∃ b, b ∈ l ∧ d b = some j) o

theorem Best.start (d : Nat → Option Nat) : Best d [] none := fun j ⟨b, hb, _⟩ => by cases hb
theorem Best.step {d : Nat → Option Nat} {l : List Nat} {o : Option Nat} (h : Best d l o) (b : Nat) : Best d (l ++ [b]) (upd o (d b)) := by
  cases hb : d b with
  | none =>
    have back : ∀ j, (∃ x, x ∈ l ++ [b] ∧ d x = some j) → ∃ x, x ∈ l ∧ d x = some j := by
      rintro j ⟨x, hx, hj⟩
      rcases List.mem_append.1 hx with hx | hx
      · exact ⟨x, hx, hj⟩
      · obtain rfl : x = b := by simpa using hx
        rw [hb] at hj; cases hj
    cases o with
    | none => exact fun j hj => h j (back j hj)
    | some m =>
      obtain ⟨⟨x, hx, hm⟩, h2⟩ := h
      exact ⟨⟨x, by simp [hx], hm⟩, fun j hj => h2 j (back j hj)⟩
  | some k =>
    cases o with
    | none =>
      refine ⟨⟨b, by simp, hb⟩, ?_⟩
      rintro j ⟨x, hx, hj⟩
      rcases List.mem_append.1 hx with hx | hx
      · exact absurd ⟨x, hx, hj⟩ (h j)
      · obtain rfl : x = b := by simpa using hx
        rw [hb] at hj; cases hj; exact Nat.le_refl _
    | some m =>
      obtain ⟨⟨x0, hx0, hm⟩, h2⟩ := h
      show Best d (l ++ [b]) (if k < m then some k else some m)
      by_cases hkm : k < m
      · rw [if_pos hkm]
        refine ⟨⟨b, by simp, hb⟩, ?_⟩
        rintro j ⟨x, hx, hj⟩
        rcases List.mem_append.1 hx with hx | hx
        · have := h2 j ⟨x, hx, hj⟩
          omega
        · obtain rfl : x = b := by simpa using hx
          rw [hb] at hj; cases hj; exact Nat.le_refl _
      · rw [if_neg hkm]
        refine ⟨⟨x0, by simp [hx0], hm⟩, ?_⟩
        rintro j ⟨x, hx, hj⟩
        rcases List.mem_append.1 hx with hx | hx
        · exact h2 j ⟨x, hx, hj⟩
        · obtain rfl : x = b := by simpa using hx
          rw [hb] at hj; cases hj; omega

/-- The answer of the search backwards. -/
theorem Best.isMin {adj : Nat → List Nat} {tx n : Nat} {bl P : List Nat} {d : Nat → Option Nat} {o : Option Nat} (hb : ∀ u v, u < n → v ∈ adj u → v < n) (hbl : ∀ b ∈ bl, b < n)
    (hM : Mid (srcs (edgesTo adj tx n)) tx P [] d) (h : Best d bl o) : IsMin (Cyc adj tx bl) o := by
  cases o with
  | none =>
    rintro j ⟨b, hbm, hr⟩
    obtain ⟨k, hk, _⟩ := hM.complete j b (F_of_R hb j b (hbl b hbm) hr)
    exact h k ⟨b, hbm, hk⟩
  | some m =>
    obtain ⟨⟨b, hbm, hm⟩, h2⟩ := h
    refine ⟨⟨b, hbm, R_of_F m b (hM.sound b m hm)⟩, ?_⟩
    rintro j ⟨x, hx, hr⟩
    obtain ⟨k, hk, hkj⟩ := hM.complete j x (F_of_R hb j x (hbl x hx) hr)
    exact Nat.le_trans (h2 k ⟨x, hx, hk⟩) hkj

/-- The numbers that the program keeps. -/
def dEnc : Option Nat → Int
  | none => -1
  | some k => k
def bEnc : Option Nat → Int
  | none => -1
  | some m => m + 1

/-! ### 6. The queue of the search backwards is never longer than n -/
theorem nodup_le : ∀ (n : Nat) (L : List Nat), L.Nodup → (∀ x ∈ L, x < n) → L.length ≤ n
  | 0, L, _, h => by
    cases L with
    | nil => exact Nat.le_refl _
    | cons x l => exact absurd (h x (by simp)) (Nat.not_lt_zero _)
  | n + 1, L, hd, h => by
    have h1 := nodup_le n (L.filter (fun x => x != n)) (hd.filter _) (fun x hx => by
      obtain ⟨h2, h3⟩ := List.mem_filter.1 hx
      have := h x h2
      have h4 : x ≠ n := by simpa using h3
      omega)
    have h2 : ∀ (l : List Nat), l.Nodup → l.length ≤ (l.filter (fun x => x != n)).length + 1 := by
      intro l
      induction l with
      | nil => intro _; simp
      | cons a l ih =>
        intro hl
        obtain ⟨ha, hl'⟩ := List.nodup_cons.1 hl
        by_cases e : a = n
        · subst e
          have : l.filter (fun x => x != a) = l := List.filter_eq_self.2 (fun x hx => by
            have : x ≠ a := fun e => ha (e ▸ hx)
            simpa using this)
          rw [List.filter_cons_of_neg (by simp), this]
          simp
        · rw [List.filter_cons_of_pos (by simpa using e)]
          have := ih hl'
          simp only [List.length_cons]
          omega
    have := h2 L hd
    omega

/-- The queue as a whole: every vertex once. -/
structure Once (n : Nat) (L : List Nat) (d : Nat → Option Nat) : Prop where
  nodup : L.Nodup
  lt : ∀ x ∈ L, x < n
  met : ∀ x ∈ L, ∃ k, d x = some k
  small : ∀ x k, d x = some k → k < L.length
theorem Once.start {n tx : Nat} (h : tx < n) : Once n [tx] (d0 tx) :=
  ⟨by simp, by simpa using h, fun x hx => ⟨0, by simp at hx; simp [d0, hx]⟩, fun x k hk => by rw [(d0_some hk).2]; simp⟩
theorem Once.new {n : Nat} {L : List Nat} {d : Nat → Option Nat} (h : Once n L d) {v k : Nat} (hv : d v = none) (hn : v < n) (hk : k ≤ L.length) : Once n (L ++ [v]) (put d v k) := by
  have hvL : v ∉ L := fun hm => by
    obtain ⟨k, hk⟩ := h.met v hm
    rw [hv] at hk; cases hk
  refine ⟨?_, fun x hx => ?_, fun x hx => ?_, fun x j hj => ?_⟩
  · rw [List.nodup_append]
    exact ⟨h.nodup, by simp, fun a ha b hb => by
      obtain rfl : b = v := by simpa using hb
      exact fun e => hvL (e ▸ ha)⟩
  · rcases List.mem_append.1 hx with hx | hx
    · exact h.lt x hx
    · obtain rfl : x = v := by simpa using hx
      exact hn
  · rcases List.mem_append.1 hx with hx | hx
    · obtain ⟨j, hj⟩ := h.met x hx
      exact ⟨j, put_old hv hj⟩
    · obtain rfl : x = v := by simpa using hx
      exact ⟨k, by simp [put]⟩
  · rw [List.length_append]
    unfold put at hj
    by_cases e : x = v
    · rw [if_pos e] at hj
      cases hj
      simp
      omega
    · rw [if_neg e] at hj
      have := h.small x j hj
      simp
      omega
theorem Once.len {n : Nat} {L : List Nat} {d : Nat → Option Nat} (h : Once n L d) : L.length ≤ n := nodup_le n L h.nodup h.lt
/-- There is room for one more. -/
theorem Once.room {n : Nat} {L : List Nat} {d : Nat → Option Nat} (h : Once n L d) {v : Nat} (hv : d v = none) (hn : v < n) : L.length < n := by
  have := (h.new (k := 0) hv hn (Nat.zero_le _)).len
  simp at this
  omega

end Go.Proofs.Qxb6616799a.Plain
