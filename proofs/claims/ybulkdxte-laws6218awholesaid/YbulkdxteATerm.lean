/- LawS6218AWhole: the stand-in term's holds, and anyOf.holds, by their contracts. -/
import Derived.Test.YbulkdxteRows
import Derived.WalkKit
import Derived.WalkSpells
import Derived.BigQuiet
import Derived.Deep.QuietTactic
import Derived.Deep.Draws
import Derived.Deep.OwnRows
import Derived.Deep.AppendLies
import Derived.Deep.RegionHeldLaw
import Derived.Deep.RegionLaw
import Derived.BigRegion
import Derived.Deep.DrawnRows
import Derived.Lib.Builder
import Derived.LaidEqlPtr
import Derived.OneCell
namespace Go.Proofs.Ybulkdxte
set_option linter.unusedVariables false
open Go.RowKit
attribute [local go_sem ↓] Go.wp_at_zero Go.wp_at_succ

theorem info3 : (Yba.prog.info? 3).map (fun i => (i.zero, i.size, i.bytes)) = some (some (.int .i64 0), 1, 8) := by kernel_rfl
theorem info30 : (Yba.prog.info? 30).map (fun _ => ()) = some () := by kernel_rfl
theorem neq_scope (x : Addr) (w : World) : (binOp .neq 24 (.pointer (some x)) (.pointer (some x))).run Yba.prog w = .ok (.bool false) w := by
  obtain ⟨j, hj, _⟩ := Option.map_eq_some_iff.1 info30
  exact Lib.run_neq_ptr_same w x Yba.underlying24 hj

/-- The first m numbers, as cells. -/
def upTo (m : Nat) : List Value := (List.range m).map fun i : Nat => Value.int .i64 (i : Int)
theorem upTo_len (m : Nat) : (upTo m).length = m := by simp [upTo]
theorem upTo_succ (m : Nat) : upTo (m + 1) = upTo m ++ [.int .i64 (m : Int)] := by simp [upTo, List.range_succ]

theorem kept_lb {w w1 : World} {o : Obj} {row : Option Nat} {lb : Nat} {ob : Obj} (hg : (w.alloc o).drew.grownBy w1 row) (hl : w.heap[lb]? = some ob) (hne : some lb ≠ row) : w1.heap[lb]? = some ob := by
  have hlt : lb < w.heap.size := by
    rcases Nat.lt_or_ge lb w.heap.size with h | h
    · exact h
    · rw [Array.getElem?_eq_none h] at hl; cases hl
  have hs : (w.alloc o).heap.size = w.heap.size + 1 := by simp
  rw [hg.block lb (show lb < (w.alloc o).heap.size by omega) hne]; exact (Below.heap_alloc _ _ _ hlt).trans hl
theorem kept_cell {w w1 : World} {o : Obj} {row : Option Nat} {a : Addr} {v : Value} (hg : (w.alloc o).drew.grownBy w1 row) (hc : w.cell? a = some v) (hlt : a.block < w.heap.size) (hne : some a.block ≠ row) : w1.cell? a = some v := by
  have hs : (w.alloc o).heap.size = w.heap.size + 1 := by simp
  rw [hg.cell_far a (show a.block < (w.alloc o).heap.size by omega) hne]
  show (w.alloc o).cell? a = _
  rw [World.cell?_of_block (Below.heap_alloc w o a.block hlt)]; exact hc

theorem term_post {w w1 : World} {o : Obj} {pb lb base m g cap : Nat} {lv : Value} (hl : w.heap[lb]? = some (.cells #[lv] 23 (0, 0))) (hpb : ∀ k, lv.ownBlock = some k → k ≠ pb ∧ k ≠ lb) (hbase : base ≤ w.heap.size) (hlb : base ≤ lb) (hown : w.ownsRow base 3 1 lv m (upTo m))
    (hown1 : w1.ownsRow base 3 1 (.slice (some ⟨g, 0, none⟩) (m + 1) cap) (m + 1) (upTo m ++ [.int .i64 (m : Int)])) (hgrow : (w.alloc o).drew.grownBy w1 lv.ownBlock) (hat : lv.ownBlock = some g ∨ g = w.heap.size + 1) :
    ∃ lv', (w1.setCell ⟨lb, 0, none⟩ (.slice (some ⟨g, 0, none⟩) (m + 1) cap)).heap[lb]? = some (.cells #[lv'] 23 (0, 0)) ∧ (w1.setCell ⟨lb, 0, none⟩ (.slice (some ⟨g, 0, none⟩) (m + 1) cap)).ownsRow base 3 1 lv' (m + 1) (upTo (m + 1)) ∧
      (lv'.ownBlock = lv.ownBlock ∨ ∃ k, lv'.ownBlock = some k ∧ w.heap.size ≤ k) ∧ (∀ b, b < w.heap.size → b ≠ lb → lv.ownBlock ≠ some b → (w1.setCell ⟨lb, 0, none⟩ (.slice (some ⟨g, 0, none⟩) (m + 1) cap)).heap[b]? = w.heap[b]?) ∧ Below base w (w1.setCell ⟨lb, 0, none⟩ (.slice (some ⟨g, 0, none⟩) (m + 1) cap)) := by
  have hlt : lb < w.heap.size := lt_of_block hl
  have hne2 : some lb ≠ lv.ownBlock := fun e => (hpb lb e.symm).2 rfl
  have hb1 := kept_lb hgrow hl hne2
  have hgl : g ≠ lb := by
    rcases hat with h | h
    · exact (hpb g h).2
    · omega
  refine ⟨_, one_setCell hb1, ?_, ?_, ?_, ?_⟩
  · rw [upTo_succ]
    refine ⟨hown1.1, ?_⟩
    rcases hown1.2 with ⟨h, _⟩ | ⟨g', cap', cur, hv, hb, hg, hr⟩
    · cases h
    · refine .inr ⟨g', cap', cur, hv, hb, ?_, hr⟩
      cases hv
      rw [Below.heap_setCell _ _ _ _ hgl]; exact hg
  · rcases hat with h | h
    · exact .inl h.symm
    · exact .inr ⟨g, rfl, by omega⟩
  · intro b hb hbl hbv
    have hs : (w.alloc o).heap.size = w.heap.size + 1 := by simp
    rw [Below.heap_setCell _ _ _ _ hbl, hgrow.block b (show b < (w.alloc o).heap.size by omega) (fun e => hbv e.symm)]
    exact Below.heap_alloc _ _ _ hb
  · have hs : (w.alloc o).heap.size = w.heap.size + 1 := by simp
    refine Below.setCell ?_ hlb _
    exact ((Below.refl base w).alloc hbase o).drew.grown hgrow (show base ≤ (w.alloc o).heap.size by omega) (fun k hk => (hown.lt k hk).1)

set_option maxHeartbeats 4000000 in
theorem term_holds (pb sb lb eb base m : Nat) (ans : Bool) (lv : Value) (w : World) (hm : m ≤ 65536)
    (c0 : w.cell? ⟨pb, 0, none⟩ = some (.bool ans)) (c1 : w.cell? ⟨pb, 1, none⟩ = some (.int .i64 (m : Int))) (c2 : w.cell? ⟨pb, 2, none⟩ = some (.pointer (some ⟨sb, 0, none⟩))) (c3 : w.cell? ⟨pb, 3, none⟩ = some (.pointer (some ⟨lb, 0, none⟩)))
    (hl : w.heap[lb]? = some (.cells #[lv] 23 (0, 0))) (hpl : pb ≠ lb) (hpb : ∀ k, lv.ownBlock = some k → k ≠ pb ∧ k ≠ lb) (hbase : base ≤ w.heap.size) (hlb : base ≤ lb) (hown : w.ownsRow base 3 1 lv m (upTo m)) :
    Calls Yba.prog 30 #[.pointer (some ⟨pb, 0, none⟩), .pointer (some ⟨sb, 0, none⟩)] w fun e w' => e = .returned (.bool ans) ∧ ∃ lv', w'.heap[lb]? = some (.cells #[lv'] 23 (0, 0)) ∧ w'.ownsRow base 3 1 lv' (m + 1) (upTo (m + 1)) ∧
      (lv'.ownBlock = lv.ownBlock ∨ ∃ k, lv'.ownBlock = some k ∧ w.heap.size ≤ k) ∧ (∀ b, b < w.heap.size → b ≠ lb → lv.ownBlock ≠ some b → w'.heap[b]? = w.heap[b]?) ∧ Below base w w' := by
  obtain ⟨i0, hi, hz0, hz1, hz2⟩ := info_parts info3
  have hcl := cell_of_one hl
  have hfl := free_of_one hl
  have hq := neq_scope
  have hlt : lb < w.heap.size := lt_of_block hl
  have hpt : pb < w.heap.size := World.block_lt_of_cell? _ _ c0
  have hne1 : some pb ≠ lv.ownBlock := fun e => (hpb pb e.symm).1 rfl
  have hne2 : some lb ≠ lv.ownBlock := fun e => (hpb lb e.symm).2 rfl
  go_enter Yba.func30, Yba.ntmps30
  go_wp2
  go_region_law
    ((refine step_append_lies _ (by rfl) _ _ _ (by rfl) base 3 i0 (.int .i64 0) 1 8 Yba.underlying23 hi hz0 hz1 hz2 rfl (by decide) lv m (upTo m) (by rfl) (hown.alloc _) ⟨w.heap.size, 0, none⟩ 1 1 [.int .i64 (m : Int)] (by rfl) rfl (cell_one_new _ _ _) (ints_oneCell .i64 [(m : Int)]) (by omega) (by unfold maxLen; omega) (by omega) (by simp; omega) (w.heap.size + 1) (by simp) ?_; intro g cap w1 hown1 hgrow hat hlt1; have hb1 := kept_lb hgrow hl hne2; have hc1 := cell_of_one hb1; have hf1 := free_of_one hb1; have d0 := kept_cell hgrow c0 hpt hne1; have d2 := kept_cell hgrow c2 hpt hne1; have d3 := kept_cell hgrow c3 hpt hne1; have d1 := kept_cell hgrow c1 hpt hne1))
  all_goals have e0 : (w1.setCell ⟨lb, 0, none⟩ (.slice (some ⟨g, 0, none⟩) (m + 1) cap)).cell? ⟨pb, 0, none⟩ = some (.bool ans) := (World.cell?_setCell_far _ _ _ _ (Ne.symm hpl)).trans d0
  all_goals have e2 : (w1.setCell ⟨lb, 0, none⟩ (.slice (some ⟨g, 0, none⟩) (m + 1) cap)).cell? ⟨pb, 2, none⟩ = some (.pointer (some ⟨sb, 0, none⟩)) := (World.cell?_setCell_far _ _ _ _ (Ne.symm hpl)).trans d2
  all_goals (obtain ⟨w2, hw2⟩ : ∃ w2, w2 = w1.setCell ⟨lb, 0, none⟩ (.slice (some ⟨g, 0, none⟩) (m + 1) cap) := ⟨_, rfl⟩)
  all_goals have hpost := term_post hl hpb hbase hlb hown hown1 hgrow hat
  all_goals rw [← hw2] at e0 e2 hpost ⊢
  all_goals clear hw2 d0 d1 d2 d3 hb1 hc1 hf1 hown1 hgrow c0 c1 c2 c3 hcl hfl hl
  go_wp2
  all_goals (go_ret; exact ⟨rfl, hpost⟩)
end Go.Proofs.Ybulkdxte
