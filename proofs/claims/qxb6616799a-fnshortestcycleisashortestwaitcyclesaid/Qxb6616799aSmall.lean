/-
  zzBytes (6), idxInRange (7), idxContains (10); copy into a fresh row (seat b6616799a).
-/
import Derived.Test.Qxb6616799aBackMem
import Derived.Laws.CopyOwn
namespace Go.Proofs.Qxb6616799a
open Go.RowKit Plain

/-- A SLICE OF INTS, whatever numbers. -/
def RIn (w : World) (a : Option Addr) (m : Nat) (Y : Nat → Int) : Prop :=
  0 < m → ∃ b off, a = some ⟨b, off, none⟩ ∧ ∀ i, i < m → w.cell? ⟨b, off + i, none⟩ = some (.int .i64 (Y i))
theorem RIn.since {w wr : World} {a : Option Addr} {m : Nat} {Y : Nat → Int} (h : RIn w a m Y) {b : Nat} (hB : w.heap.size ≤ b) (hs : w.Since b wr) : RIn wr a m Y := fun h0 => by
  obtain ⟨b, off, ha, hc⟩ := h h0
  refine ⟨b, off, ha, fun i hi => ?_⟩
  rw [hs.cell (a := ⟨b, off + i, none⟩) (Nat.lt_of_lt_of_le (World.block_lt_of_cell? _ _ (hc i hi)) hB)]
  exact hc i hi
/-- ROWS OF INTS, whatever numbers. -/
structure GRaw (w : World) (ga : Option Addr) (n : Nat) (A : Nat → Option Addr) (L C : Nat → Nat) (Y : Nat → Nat → Int) : Prop where
  top : 0 < n → ∃ gb go, ga = some ⟨gb, go, none⟩ ∧ ∀ r, r < n → w.cell? ⟨gb, go + r, none⟩ = some (.slice (A r) (L r) (C r))
  rows : ∀ r, r < n → RIn w (A r) (L r) (Y r)
theorem GRaw.since {w wr : World} {ga : Option Addr} {n : Nat} {A : Nat → Option Addr} {L C : Nat → Nat} {Y : Nat → Nat → Int} (h : GRaw w ga n A L C Y) {B : Nat} (hB : w.heap.size ≤ B) (hs : w.Since B wr) : GRaw wr ga n A L C Y := by
  refine ⟨fun h0 => ?_, fun r hr => (h.rows r hr).since hB hs⟩
  obtain ⟨gb, go, ha, hc⟩ := h.top h0
  refine ⟨gb, go, ha, fun r hr => ?_⟩
  rw [hs.cell (a := ⟨gb, go + r, none⟩) (Nat.lt_of_lt_of_le (World.block_lt_of_cell? _ _ (hc r hr)) hB)]
  exact hc r hr

set_option maxHeartbeats 1000000 in
theorem bytes_walk (ga : Option Addr) (n nc : Nat) (A : Nat → Option Addr) (L C : Nat → Nat) (Y : Nat → Nat → Int) (t : Int) (ba : Option Addr) (m bc : Nat) (w : World) (hG : GRaw w ga n A L C Y) :
    Calls Try.prog 6 #[.slice ga n nc, .int .i64 t, .slice ba m bc] w fun e w' => ∃ b, e = .returned (.bool b) ∧ w = w' ∧ (b = true → n ≤ 1048576 ∧ (∀ r, r < n → L r ≤ 1048576) ∧ m ≤ 1048576) := by
  by_cases hn : n ≤ 1048576
  · go_enter Try.func6, Try.ntmps6
    go_wp2
    go_loopg [7, 8] n (fun g sz si wr => w = wr ∧ ∃ (k s : Nat), k ≤ n ∧ g = n - k ∧ si = .int .i64 k ∧ sz = .int .i64 s ∧ s ≤ 1048576 ∧ ∀ r, r < k → L r ≤ 1048576)
    case atStart => exact ⟨rfl, 0, n, Nat.zero_le _, rfl, rfl, by go_num, hn, fun r hr => absurd hr (Nat.not_lt_zero _)⟩
    obtain ⟨rfl, k, s, hk, rfl, rfl, rfl, hs, hL⟩ := hrel
    by_cases hkn : k < n
    · obtain ⟨gb, go, rfl, hrow⟩ := hG.top (by omega)
      have g0 := hrow k hkn
      have k1 : (k : Int) < (n : Int) := by omega
      clear hrow
      by_cases hl : L k ≤ 1048576
      · by_cases hs2 : s + L k ≤ 1048576
        · go_wp2
          go_roundg (n - (k + 1))
          case measure => omega
          case rel => exact ⟨rfl, k + 1, s + L k, by omega, rfl, by go_num, by go_num, hs2, fun r hr => by
            by_cases e : r = k
            · rw [e]; exact hl
            · exact hL r (by omega)⟩
        · go_wp2
          go_ret
          exact ⟨false, rfl, rfl, fun h => by cases h⟩
      · go_wp2
        go_ret
        exact ⟨false, rfl, rfl, fun h => by cases h⟩
    · obtain rfl : k = n := by omega
      by_cases hm : m ≤ 1048576
      · by_cases hs2 : s + m ≤ 1048576
        · go_wp2
          go_ret
          exact ⟨true, rfl, rfl, fun _ => ⟨hn, hL, hm⟩⟩
        · go_wp2
          go_ret
          exact ⟨false, rfl, rfl, fun h => by cases h⟩
      · go_wp2
        go_ret
        exact ⟨false, rfl, rfl, fun h => by cases h⟩
  · go_enter Try.func6, Try.ntmps6
    go_wp2
    go_ret
    exact ⟨false, rfl, rfl, fun h => by cases h⟩

/-- What idxInRange answers. -/
def RangePost (w : World) (m n : Nat) (Y : Nat → Int) (e : Ending) (w' : World) : Prop := ∃ b, e = .returned (.bool b) ∧ w = w' ∧ (b = true → ∀ i, i < m → 0 ≤ Y i ∧ Y i < n)

set_option maxHeartbeats 1000000 in
theorem inRange_walk (a : Option Addr) (m c : Nat) (Y : Nat → Int) (n : Nat) (w : World) (hR : RIn w a m Y) (hm : m ≤ 1048576) :
    Calls Try.prog 7 #[.slice a m c, .int .i64 (n : Int)] w (RangePost w m n Y) := by
  go_enter Try.func7, Try.ntmps7
  go_wp2
  go_loopg [5] m (fun g si wr => w = wr ∧ ∃ k : Nat, k ≤ m ∧ g = m - k ∧ si = .int .i64 k ∧ ∀ i, i < k → 0 ≤ Y i ∧ Y i < n)
  case atStart => exact ⟨rfl, 0, Nat.zero_le _, rfl, rfl, fun i hi => absurd hi (Nat.not_lt_zero _)⟩
  obtain ⟨rfl, k, hk, rfl, rfl, hY⟩ := hrel
  by_cases hkm : k < m
  · obtain ⟨b, off, rfl, hc⟩ := hR (by omega)
    have g0 := hc k hkm
    have k1 : (k : Int) < (m : Int) := by omega
    have hst : 0 ≤ Y k ∧ Y k < n → ∀ i, i < k + 1 → 0 ≤ Y i ∧ Y i < n := fun h i hi => by
      by_cases e : i = k
      · rw [e]; exact h
      · exact hY i (by omega)
    have HY : Hid (∀ i, i < k → 0 ≤ Y i ∧ Y i < n) := hY
    clear hc hY
    generalize Y k = y at g0 hst
    by_cases h1 : y < 0
    · go_wp2
      go_ret
      exact ⟨false, rfl, rfl, fun h => by cases h⟩
    · by_cases h2 : (n : Int) ≤ y
      · go_wp2
        go_ret
        exact ⟨false, rfl, rfl, fun h => by cases h⟩
      · have hst' := hst ⟨by omega, by omega⟩
        clear hst
        go_wp2
        go_roundg (m - (k + 1))
        case measure => omega
        case rel => exact ⟨rfl, k + 1, by omega, rfl, by go_num, hst'⟩
  · obtain rfl : k = m := by omega
    go_wp2
    go_ret
    exact ⟨true, rfl, rfl, fun _ => hY⟩

set_option maxHeartbeats 1000000 in
theorem contains_walk (a : Option Addr) (m c : Nat) (B : Nat → Nat) (v : Nat) (w : World) (hR : NIn w a m B) (hm : m ≤ 1048576) (hv : v ∈ lst m B) :
    Calls Try.prog 10 #[.slice a m c, .int .i64 (v : Int)] w fun e w' => e = .returned (.bool true) ∧ w = w' := by
  go_enter Try.func10, Try.ntmps10
  go_wp2
  go_loopg [5] m (fun g si wr => w = wr ∧ ∃ k : Nat, k ≤ m ∧ g = m - k ∧ si = .int .i64 k ∧ ∀ i, i < k → B i ≠ v)
  case atStart => exact ⟨rfl, 0, Nat.zero_le _, rfl, rfl, fun i hi => absurd hi (Nat.not_lt_zero _)⟩
  obtain ⟨rfl, k, hk, rfl, rfl, hY⟩ := hrel
  by_cases hkm : k < m
  · obtain ⟨b, off, rfl, hc⟩ := hR (by omega)
    have g0 := hc k hkm
    have k1 : (k : Int) < (m : Int) := by omega
    have hst : B k ≠ v → ∀ i, i < k + 1 → B i ≠ v := fun h i hi => by
      by_cases e : i = k
      · rw [e]; exact h
      · exact hY i (by omega)
    clear hc hY hv
    generalize B k = y at g0 hst
    by_cases h1 : y = v
    · subst h1
      go_wp2
      go_ret
      exact ⟨rfl, rfl⟩
    · have h1z : ((y : Int) == (v : Int)) = false := by simp; omega
      have hst' := hst h1
      clear hst
      go_wp2
      go_roundg (m - (k + 1))
      case measure => omega
      case rel => exact ⟨rfl, k + 1, by omega, rfl, by go_num, hst'⟩
  · obtain ⟨i, hi, he⟩ := lst_mem.1 hv
    exact absurd he (hY i (by omega))

/-- 'copy(dst, src)', dst a fresh row as long as src. -/
theorem run_copy_fresh {w : World} (ty : TypeId) (hsz : (Try.prog.info? 3).map (·.size) = some 1) (g m : Nat) (sp : Option Addr) (sc : Nat) (f0 : Nat → Value) (Y : Nat → Int) (hrow : w.rowIs g 3 m f0) (hsrc : RIn w sp m Y) :
    ∃ w', (Builtin.copy_ #[23, 23] ty #[.slice (some ⟨g, 0, none⟩) m m, .slice sp m sc]).run Try.prog w = .ok (.int .i64 (m : Int)) w' ∧ w'.rowIs g 3 m (fun i => .int .i64 (Y i)) ∧ w.grownBy w' (some g) := by
  by_cases h0 : m = 0
  · subst h0
    have hr := run_copy_none (P := Try.prog) w 23 23 ty 3 (some ⟨g, 0, none⟩) sp 0 0 0 sc Try.underlying23 hsz (by simp)
    exact ⟨w, hr, hrow.congr (fun i hi => absurd hi (Nat.not_lt_zero _)), ⟨rfl, rfl, rfl, Nat.le_refl _, fun _ _ _ => rfl⟩⟩
  · obtain ⟨b, off, rfl, hc⟩ := hsrc (by omega)
    obtain ⟨cur, hb, hn, _⟩ := hrow
    have hlen : ((List.range m).map (fun i => Value.int .i64 (Y i))).length = m := by simp
    have hr := run_copy_row (P := Try.prog) w 23 23 ty 3 g 0 m m ⟨b, off, none⟩ m sc cur 3 ((List.range m).map (fun i => Value.int .i64 (Y i))) Try.underlying23 hsz hb (by simp) (fun j v hj => by
      rw [Addr.add_lit]
      have hjm : j < m := by have := (List.getElem?_eq_some_iff.1 hj).1; simpa using this
      rw [hc j hjm]
      simpa [hjm] using hj) (by rw [hlen]; omega) (fun v hv => by
      obtain ⟨i, _, rfl⟩ := List.mem_map.1 hv
      rfl)
    rw [hlen] at hr
    refine ⟨_, hr, ⟨_, setRow_heap w g cur _ 3 _ hb, ?_, fun i hi => ?_⟩, ⟨rfl, rfl, rfl, by simp, fun k _ hk => setRow_other w g k _ (fun e => hk (by rw [e]))⟩⟩
    · simp; omega
    · simp only [List.take_zero, List.nil_append, Nat.zero_add, List.getElem?_toArray]
      rw [List.getElem?_append_left (by rw [hlen]; exact hi)]
      simp [hi]

end Go.Proofs.Qxb6616799a
