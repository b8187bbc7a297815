/- LawS6213CWhole: spares.leaf where there is no spare. -/
import Derived.Test.YbulkdxqmGreatFmtTree
namespace Go.Proofs.YbulkdxqmGreatFmt
set_option linter.unusedVariables false
set_option linter.unusedSimpArgs false
open Go.RowKit

theorem mk47 (w : World) : (Instr.makeSlice 47 (.int .i64 0) (.int .i64 17)).run Ybaz.prog w = .ok (.slice (some ⟨w.heap.size, 0, none⟩) 0 17) (w.alloc (.cells (madeCells #[.pointer none] 17) 23)) := by kernel_rfl
theorem mk140 (w : World) : (Instr.makeSlice 140 (.int .i64 0) (.int .i64 17)).run Ybaz.prog w = .ok (.slice (some ⟨w.heap.size, 0, none⟩) 0 17) (w.alloc (.cells (madeCells #[.int .i64 0, .int .i64 0, .int .i64 0, .float .f64 0] 68) 134)) := by kernel_rfl

/-- A new row, empty. -/
theorem Arr.fresh0 (w : World) (e k c m : Nat) (z : Array Value) (hm : m = c * k) (hc : c ≤ 1000) : Arr (w.alloc (.cells (madeCells z m) e)) w.heap.size e k 0 c [] := by
  subst hm
  have hs : (madeCells z (c * k)).size = c * k := by simp [madeCells]
  refine ⟨fun j x hj => by simp at hj, fun j hj => ?_, fun j => frozen_of_row _ _ _ _ _ (heap_alloc_new _ _), ?_, by simp, Nat.zero_le _, by omega, fun x hx => by cases hx⟩
  · rw [cell_of_row _ _ _ _ _ _ (heap_alloc_new _ _), Array.getElem?_eq_getElem (by omega)]; rfl
  · unfold World.shape?
    rw [heap_alloc_new]
    show some (e, (madeCells z (c * k)).size) = _
    rw [hs]

/-- The leaf that leaf() makes: its row of cells, its two arrays. -/
def newT (ja sa : Nat) : Array Value := #[Value.pointer none, Value.slice none 0 0, Value.slice (some ⟨ja, 0, none⟩) 0 17, Value.slice (some ⟨sa, 0, none⟩) 0 17, Value.pointer none,
          Value.int IntKind.i64 0, Value.int IntKind.i64 0, Value.int IntKind.i64 0, Value.float FloatKind.f64 0,
          Value.int IntKind.i64 0, Value.int IntKind.i64 0, Value.int IntKind.i64 0, Value.int IntKind.i64 0,
          Value.int IntKind.i64 0, Value.float FloatKind.f64 0, Value.float FloatKind.f64 0,
          Value.float FloatKind.f64 0, Value.float FloatKind.f64 0, Value.float FloatKind.f64 0,
          Value.float FloatKind.f64 0, Value.float FloatKind.f64 0, Value.float FloatKind.f64 0, Value.pointer none,
          Value.bool false]

theorem leaf34 (sp : Nat) {spa : Option Addr} (w : World) (h : w.cell? ⟨sp, 0, none⟩ = some (.slice spa 0 0)) :
    Calls Ybaz.prog 34 #[.pointer (some ⟨sp, 0, none⟩)] w fun e w' => ∃ ja sa, e = .returned (.pointer (some ⟨w.heap.size + 2, 0, none⟩)) ∧ w'.heap[w.heap.size + 2]? = some (.cells (newT ja sa) 142 (0, 0)) ∧ Arr w' ja 23 1 0 17 [] ∧ Arr w' sa 134 4 0 17 [] ∧ w.heap.size ≤ ja ∧ ja < w.heap.size + 2 ∧ w.heap.size ≤ sa ∧ sa < w.heap.size + 2 ∧ ja ≠ sa ∧ Below w.heap.size w w' := by
  have m1 := mk47
  have m2 := mk140
  go_enter Ybaz.func34, Ybaz.ntmps34
  go_upto_region 2 with fail
  go_region
  all_goals go_wp2
  all_goals go_ret
  · refine ⟨w.heap.size, w.heap.size + 1, rfl, heap_top3 _ _ _ _, ?_, ?_, by omega, by omega, by omega, by omega, by omega, ((((Below.refl _ _).alloc (Nat.le_refl _) _).alloc (by simp) _).alloc (by simp; omega) _).drew⟩
    · exact (((Arr.fresh0 w 23 1 17 17 #[.pointer none] rfl (by omega)).next ((Chg.refl S0 _).alloc _) (fun _ => id)).next ((Chg.refl S0 _).alloc _) (fun _ => id)).next ((Chg.refl S0 _).drew) (fun _ => id)
    · have := Arr.fresh0 (w.alloc (.cells (madeCells #[.pointer none] 17) 23)) 134 4 17 68 #[.int .i64 0, .int .i64 0, .int .i64 0, .float .f64 0] rfl (by omega)
      have hs : (w.alloc (.cells (madeCells #[.pointer none] 17) 23)).heap.size = w.heap.size + 1 := by simp
      rw [hs] at this
      exact (this.next ((Chg.refl S0 _).alloc _) (fun _ => id)).next ((Chg.refl S0 _).drew) (fun _ => id)
  · refine ⟨w.heap.size + 1, w.heap.size, rfl, heap_top3 _ _ _ _, ?_, ?_, by omega, by omega, by omega, by omega, by omega, ((((Below.refl _ _).alloc (Nat.le_refl _) _).alloc (by simp) _).alloc (by simp; omega) _).drew⟩
    · have := Arr.fresh0 (w.alloc (.cells (madeCells #[.int .i64 0, .int .i64 0, .int .i64 0, .float .f64 0] 68) 134)) 23 1 17 17 #[.pointer none] rfl (by omega)
      have hs : (w.alloc (.cells (madeCells #[.int .i64 0, .int .i64 0, .int .i64 0, .float .f64 0] 68) 134)).heap.size = w.heap.size + 1 := by simp
      rw [hs] at this
      exact (this.next ((Chg.refl S0 _).alloc _) (fun _ => id)).next ((Chg.refl S0 _).drew) (fun _ => id)
    · exact (((Arr.fresh0 w 134 4 17 68 #[.int .i64 0, .int .i64 0, .int .i64 0, .float .f64 0] rfl (by omega)).next ((Chg.refl S0 _).alloc _) (fun _ => id)).next ((Chg.refl S0 _).alloc _) (fun _ => id)).next ((Chg.refl S0 _).drew) (fun _ => id)
end Go.Proofs.YbulkdxqmGreatFmt
