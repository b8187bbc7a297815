/- LawS6216BWhole: NewNodeSet and Put by their contracts. -/
import Derived.Test.YbulkdxscBNew
namespace Go.Proofs.Ybulkdxsc
set_option linter.unusedVariables false
open Go.RowKit

set_option maxHeartbeats 1000000 in
theorem nodeSet_any (n k : Nat) (w : World) (hn : n ≤ 1048576) (hk : (n + 63) / 64 = k) :
    Calls Yba.prog 20 #[.int .i64 (n : Int)] w fun e w' => e = .returned (.slice (some ⟨w.heap.size, 0, none⟩) k k) ∧ w' = w.alloc (.cells (madeCells #[.int .u64 0] k) 31) := by
  have mk := run_make_row' (P := Yba.prog) 76 31 (.int .u64 0) 8 Yba.underlying76 info31 rfl .i64 .i64 k (by omega) (by omega)
  have hk2 : ((n : Int) + 63) / 64 = (k : Int) := by omega
  have hk3 : ((n : Int) + 63).tdiv 64 = (k : Int) := by rw [Int.tdiv_eq_ediv_of_nonneg (by omega)]; exact hk2
  go_enter Yba.func20, Yba.ntmps20
  go_wp2
  go_ret
  exact ⟨rfl, rfl⟩

set_option maxHeartbeats 1000000 in
theorem put_node (nb k i q r : Nat) (x : Int) (w : World) (hi : i ≤ 1048576) (hq : i / 64 = q) (hr : i % 64 = r) (hqk : q < k) (hc : w.cell? ⟨nb, q, none⟩ = some (.int .u64 x)) (hf : w.frozen? ⟨nb, q, none⟩ = false) :
    Calls Yba.prog 21 #[.slice (some ⟨nb, 0, none⟩) k k, .int .i64 (i : Int), .bool true] w fun e w' => e = .returned (.tuple #[]) ∧ ∃ y, w' = (w.setCell ⟨nb, q, none⟩ (.int .u64 y)).drew := by
  have hk2 : (i : Int) / 64 = (q : Int) := by omega
  have hk3 : (i : Int).tdiv 64 = (q : Int) := by rw [Int.tdiv_eq_ediv_of_nonneg (by omega)]; exact hk2
  have hr2 : (i : Int) % 64 = (r : Int) := by omega
  have hr3 : (i : Int).tmod 64 = (r : Int) := by rw [Int.tmod_eq_emod_of_nonneg (by omega)]; exact hr2
  have hb1 : (0 : Int) ≤ (q : Int) := by omega
  have hb2 : (q : Int) < (k : Int) := by omega
  go_enter Yba.func21, Yba.ntmps21
  go_wp2
  go_region
  go_wp2
  go_end0
  exact ⟨rfl, _, rfl⟩
end Go.Proofs.Ybulkdxsc
