/-
  NewTxn (17), (*Txn).ID (19), seat b6616799a.
-/
import Derived.Test.Qxb6616799aBackMem
import Derived.WalkLawsBesides
namespace Go.Proofs.Qxb6616799a
open Go.RowKit Plain

/-- The cells of transaction i. -/
def txnCells (i : Nat) : Array Value := #[.int .u64 0, .int .u64 (i : Int), .string ⟨#[]⟩, .nilIface]
def idCells (i : Nat) : Array Value := #[.int .u64 0, .int .u64 (i : Int)]

theorem newTxn_any (i : Nat) (w : World) :
    Calls Try.prog 17 #[.agg #[.int .u64 0, .int .u64 (i : Int)], .string ⟨#[]⟩, .nilIface] w fun e w' =>
      e = .returned (.pointer (some ⟨w.heap.size + 1, 0, none⟩)) ∧ w' = (w.alloc (.cells (idCells i) 40)).alloc (.cells (txnCells i) 92) := by
  go_enter Try.func17, Try.ntmps17
  go_wp2
  go_ret
  exact ⟨rfl, rfl⟩

theorem id_any (b i : Nat) (w : World) (h : w.heap[b]? = some (.cells (txnCells i) 92 (0, 0))) :
    Calls Try.prog 19 #[.pointer (some ⟨b, 0, none⟩)] w fun e w' => e = .returned (.agg #[.int .u64 0, .int .u64 (i : Int)]) ∧ w' = w.alloc (.cells (idCells i) 40) := by
  have hb : b < w.heap.size := (Array.getElem?_eq_some_iff.1 h).1
  have c0 : w.cell? ⟨b, 0, none⟩ = some (.int .u64 0) := by simp [World.cell?, h, txnCells]
  have c1 : w.cell? ⟨b, 1, none⟩ = some (.int .u64 (i : Int)) := by simp [World.cell?, h, txnCells]
  clear h
  go_enter Try.func19, Try.ntmps19
  go_wp2
  exact bodyPost_ret (v := .agg #[.int .u64 0, .int .u64 (i : Int)]) (by simp [results, Try.results19, go_sem]) rfl ⟨rfl, rfl⟩

/-- 'id.Seq'. -/
theorem field_seq (k : Int) (wx : World) : (Instr.field 40 (.agg #[.int .u64 0, .int .u64 k]) 1).run Try.prog wx = .ok (.int .u64 k) wx := by kernel_rfl

end Go.Proofs.Qxb6616799a
