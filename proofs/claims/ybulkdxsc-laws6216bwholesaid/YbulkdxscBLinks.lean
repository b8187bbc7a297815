/- LawS6216BWhole: newLinks by its two contracts. -/
import Derived.Test.YbulkdxscBCong
import Derived.Test.YbulkdxscBFloat
import Derived.Deep.RegionHeld
namespace Go.Proofs.Ybulkdxsc
set_option linter.unusedVariables false
open Go.RowKit
attribute [local go_sem] run_store_floatB

theorem div1000 (w : World) : (binOp .quo 60 (.float .f64 0) (.float .f64 4652007308841189376)).run Yba.prog w = .ok (.float .f64 0) w := by kernel_rfl

theorem sim_cell {w w1 : World} {sb j : Nat} {C : Array Value} (hs : w.heap[sb]? = some (.cells C 84 (0, 0))) (hb : Below w.heap.size w w1) (hj : j < C.size) : (∃ v, w1.cell? ⟨sb, j, none⟩ = some v) ∧ w1.frozen? ⟨sb, j, none⟩ = false := by
  have h1 : w1.heap[sb]? = some (.cells C 84 (0, 0)) := (hb.block _ (lt_of hs)).trans hs
  exact ⟨⟨C[j], by rw [cell_of_row _ _ _ _ _ _ h1]; exact Array.getElem?_eq_getElem hj⟩, frozen_of_row _ _ _ _ _ h1⟩

set_option maxRecDepth 10000 in
set_option maxHeartbeats 2000000 in
theorem links_no (sb scb ub db n : Nat) (C : Array Value) (w : World) (hn : n ≤ 1048576) (hs : w.heap[sb]? = some (.cells C 84 (0, 0))) (hC : 2189 < C.size) (hC0 : C[0]? = some (.pointer (some ⟨scb, 0, none⟩))) (h15 : w.cell? ⟨scb, 15, none⟩ = some (.pointer none)) :
    Calls Yba.prog 8 #[.pointer (some ⟨sb, 0, none⟩), .slice (some ⟨ub, 0, none⟩) n n, .slice (some ⟨db, 0, none⟩) n n] w fun e w' => e = .returned (.tuple #[]) ∧ ∃ b w1, Below w.heap.size w w1 ∧ w' = w1.setCell ⟨sb, 2188, none⟩ (.iface 149 (.pointer (some ⟨b, 0, none⟩))) := by
  have h0 : w.cell? ⟨sb, 0, none⟩ = some (.pointer (some ⟨scb, 0, none⟩)) := by rw [cell_of_row _ _ _ _ _ _ hs]; exact hC0
  have q1 := fun w p => run_eql_pointer_nil (P := Yba.prog) w 111 p (by kernel_rfl)
  go_enter Yba.func8, Yba.ntmps8
  go_wp2_with (first
    | (go_at_call 13; refine (newLinks_any ub db n w hn).mono ?_; rintro e w1 ⟨b, rfl, hb⟩; obtain ⟨⟨v, c1⟩, f1⟩ := sim_cell (j := 2188) hs hb (by omega))
    | go_in)
  refine bodyPost_ret (results_none rfl _ _ _) rfl ?_
  exact ⟨rfl, b, w1, hb, rfl⟩

set_option maxRecDepth 10000 in
set_option maxHeartbeats 2000000 in
theorem links_yes (sb scb cgb ub db n k : Nat) (C : Array Value) (w : World) (hn : n ≤ 1048576) (hk : (n + 63) / 64 = k) (hs : w.heap[sb]? = some (.cells C 84 (0, 0))) (hC : 2189 < C.size) (hC0 : C[0]? = some (.pointer (some ⟨scb, 0, none⟩)))
    (hub : ub < w.heap.size) (hdb : db < w.heap.size) (hu : ∀ i, i < n → ∃ x, w.cell? ⟨ub, i, none⟩ = some (.float .f64 x)) (hd : ∀ i, i < n → ∃ x, w.cell? ⟨db, i, none⟩ = some (.float .f64 x))
    (hcg : cgb < w.heap.size) (hne : sb ≠ cgb) (h15 : w.cell? ⟨scb, 15, none⟩ = some (.pointer (some ⟨cgb, 0, none⟩)))
    (g0 : w.cell? ⟨cgb, 0, none⟩ = some (.int .i64 0)) (g1 : w.cell? ⟨cgb, 1, none⟩ = some (.int .i64 0)) (g2 : w.cell? ⟨cgb, 2, none⟩ = some (.int .i64 0)) (g3 : w.cell? ⟨cgb, 3, none⟩ = some (.int .i64 0)) :
    Calls Yba.prog 8 #[.pointer (some ⟨sb, 0, none⟩), .slice (some ⟨ub, 0, none⟩) n n, .slice (some ⟨db, 0, none⟩) n n] w fun e w' => e = .returned (.tuple #[]) ∧ ∃ b cs w1, w.heap.size ≤ b ∧ w1.heap[b]? = some (.cells cs 147 (0, 0)) ∧ Below w.heap.size w w1 ∧ w' = (w1.setCell ⟨sb, 2189, none⟩ (.pointer (some ⟨b, 0, none⟩))).setCell ⟨sb, 2188, none⟩ (.iface 70 (.pointer (some ⟨b, 0, none⟩))) := by
  have h0 : w.cell? ⟨sb, 0, none⟩ = some (.pointer (some ⟨scb, 0, none⟩)) := by rw [cell_of_row _ _ _ _ _ _ hs]; exact hC0
  have q1 := fun w p => run_eql_pointer_nil (P := Yba.prog) w 111 p (by kernel_rfl)
  have q2 := div1000
  have q3 := conv0
  go_enter Yba.func8, Yba.ntmps8
  go_upto_region 3 with fail
  go_region_held (fun w' : World => w'.cell? ⟨cgb, 0, none⟩ = some (.int .i64 0) ∧ w'.cell? ⟨cgb, 1, none⟩ = some (.int .i64 0) ∧ w'.cell? ⟨cgb, 2, none⟩ = some (.int .i64 0) ∧ w'.cell? ⟨cgb, 3, none⟩ = some (.int .i64 0)) (first | exact hkeep1 | go_keep)
    (first | (go_at_call 14; refine (newCong_any ub db n k sb w.drew hn hk hub hdb hu hd).mono ?_; rintro e w1 ⟨b, cs, rfl, hb1, hb2, hb3'⟩; have hb3 : Below w.heap.size w w1 := ⟨hb3'.os, hb3'.tape, hb3'.output, hb3'.size, hb3'.block⟩; obtain ⟨⟨v1, c1⟩, f1⟩ := sim_cell (j := 2188) hs hb3 (by omega); obtain ⟨⟨v2, c2⟩, f2⟩ := sim_cell (j := 2189) hs hb3 (by omega); have hkeep1 := And.intro ((hb3.cell (p := ⟨cgb, 0, none⟩) hcg).trans g0) (And.intro ((hb3.cell (p := ⟨cgb, 1, none⟩) hcg).trans g1) (And.intro ((hb3.cell (p := ⟨cgb, 2, none⟩) hcg).trans g2) ((hb3.cell (p := ⟨cgb, 3, none⟩) hcg).trans g3)))))
  go_wp2
  go_end0
  exact ⟨rfl, b, cs, w1, hb1, hb2, hb3, rfl⟩
end Go.Proofs.Ybulkdxsc
