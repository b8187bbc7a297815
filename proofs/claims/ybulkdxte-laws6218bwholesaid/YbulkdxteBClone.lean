/- LawS6218BWhole: slices.Clone over bools and over int32s, zzs6218bsame and marks.leave by their contracts. -/
import Derived.Test.YbulkdxteRows
import Derived.WalkKit
import Derived.WalkSpells
import Derived.BigQuiet
import Derived.Deep.QuietTactic
import Derived.Deep.Draws
import Derived.Deep.OwnRows
import Derived.Deep.AppendLies
import Derived.Deep.RegionHeld
import Derived.Deep.WholeRow
import Derived.BigRegion
import Derived.Lib.SliceRun
import Derived.Deep.DeepCutAuto
namespace Go.Proofs.Ybulkdxte
set_option linter.unusedVariables false
open Go.RowKit

theorem binfo4 : (Yba.prog.info? 4).map (fun i => (i.zero, i.size, i.bytes)) = some (some (.bool false), 1, 1) := by kernel_rfl
theorem binfo21 : (Yba.prog.info? 21).map (fun i => (i.zero, i.size, i.bytes)) = some (some (.int .i32 0), 1, 4) := by kernel_rfl

/-- A slice by its block: nil where there is none. -/
def sval (xb : Option Nat) (n c : Nat) : Value := match xb with | none => .slice none 0 0 | some b => .slice (some ⟨b, 0, none⟩) n c
/-- Its n cells. -/
structure Row (w : World) (b n : Nat) (f : Nat → Value) : Prop where
  lt : b < w.heap.size
  cell : ∀ j, j < n → w.cell? ⟨b, j, none⟩ = some (f j)
  free : ∀ j, w.frozen? ⟨b, j, none⟩ = false

theorem Row.later {w w' : World} {b n : Nat} {f : Nat → Value} (h : Row w b n f) (hs : w.heap.size ≤ w'.heap.size) (e : w'.heap[b]? = w.heap[b]?) : Row w' b n f :=
  ⟨Nat.lt_of_lt_of_le h.lt hs, fun j hj => (World.cell?_of_block (w := w) e).trans (h.cell j hj), fun j => (World.frozen?_of_block (w := w) e).trans (h.free j)⟩
theorem Row.of_own {w : World} {base e g n c : Nat} {xs : List Value} {f : Nat → Value} (h : w.ownsRow base e 1 (.slice (some ⟨g, 0, none⟩) n c) n xs) (hx : ∀ j, j < n → xs[j]? = some (f j)) : Row w g n f := by
  refine ⟨(h.lt g rfl).2, fun j hj => ?_, fun j => h.frozenAt j⟩
  rw [h.cellAt j (by omega)]
  exact hx j hj

theorem cells_at (b : Nat) (j : Nat) : (⟨b, 0, none⟩ : Addr).add j = ⟨b, j, none⟩ := by unfold Addr.add; split <;> simp_all

theorem own_empty (w : World) (e : TypeId) : (w.alloc (.cells #[] e)).ownsRow w.heap.size e 1 (.slice (some ⟨w.heap.size, 0, none⟩) 0 0) 0 [] :=
  ⟨rfl, .inr ⟨w.heap.size, 0, #[], rfl, Nat.le_refl _, heap_alloc_last _ _, Nat.le_refl _, by unfold maxLen; omega, rfl, rfl⟩⟩
theorem row_list {w : World} {b n : Nat} {f : Nat → Value} (h : Row w b n f) (o : Obj) : ∀ j u, ((List.range n).map f)[j]? = some u → (w.alloc o).cell? ((⟨b, 0, none⟩ : Addr).add j) = some u := by
  intro j u hj
  have hjn : j < n := by have := (List.getElem?_eq_some_iff.1 hj).1; simpa using this
  rw [cells_at, World.cell?_of_block (Below.heap_alloc w o b h.lt), h.cell j hjn]
  simp only [List.getElem?_map, List.getElem?_range hjn, Option.map_some] at hj
  exact hj
theorem range_at (n : Nat) (f : Nat → Value) : ∀ j, j < n → ([] ++ (List.range n).map f)[j]? = some (f j) := fun j hj => by simp [hj]
theorem grown_below {w w' : World} {o : Obj} {row : Option Nat} (hg : (w.alloc o).grownBy w' row) (hr : ∀ k, row = some k → w.heap.size ≤ k) : Below w.heap.size w w' :=
  ((Below.refl _ _).alloc (Nat.le_refl _) o).grown hg (by simp) hr

/-- A clone of n cells, n at least one. -/
theorem clone7 (b n c : Nat) (f : Nat → Bool) (w : World) (hn : 0 < n) (hm : n ≤ 4194304) (hr : Row w b n (fun j => .bool (f j))) :
    Calls Yba.prog 7 #[.slice (some ⟨b, 0, none⟩) n c] w fun e w' => ∃ g cap, e = .returned (.slice (some ⟨g, 0, none⟩) n cap) ∧ w.heap.size ≤ g ∧ Row w' g n (fun j => .bool (f j)) ∧ Below w.heap.size w w' := by
  have q2 := fun (w : World) (a : Option Addr) (n c n' c' : Nat) => Lib.run_eql_slice_nil (P := Yba.prog) w _ _ a n c n' c' Yba.underlying22
  obtain ⟨i0, hi, hz0, hz1, hz2⟩ := info_parts binfo4
  go_enter Yba.func7, Yba.ntmps7
  go_wp2_with (first
    | (at_builtin; refine wpList_append_lies _ rfl _ _ _ rfl w.heap.size 4 i0 (.bool false) 1 1 Yba.underlying22 hi hz0 hz1 hz2 rfl (by decide) (.slice (some ⟨w.heap.size, 0, none⟩) 0 0) 0 [] (by rfl) (own_empty w 4) ⟨b, 0, none⟩ n c ((List.range n).map fun j => Value.bool (f j)) (by rfl) (by simp) (row_list hr _) (by simp [Value.oneCell']) hn (by unfold maxLen; omega) (by omega) (by simp) (w.heap.size + 1) (by simp) ?_; intro g cap w1 hown hgrow hat hlt)
    | go_in)
  go_ret
  have hw : w.heap.size ≤ g := by
    rcases hat with h | h
    · cases h; exact Nat.le_refl _
    · omega
  have hown' : w1.ownsRow w.heap.size 4 1 (.slice (some ⟨g, 0, none⟩) n cap) n ([] ++ (List.range n).map fun j => Value.bool (f j)) := by simpa using hown
  exact ⟨g, cap, by simp, hw, Row.of_own hown' (range_at n _), grown_below hgrow (fun k hk => by cases hk; exact Nat.le_refl _)⟩

theorem clone7_nil (w : World) : Calls Yba.prog 7 #[.slice none 0 0] w fun e w' => e = .returned (.slice none 0 0) ∧ w' = w := by
  have q2 := fun (w : World) (a : Option Addr) (n c n' c' : Nat) => Lib.run_eql_slice_nil (P := Yba.prog) w _ _ a n c n' c' Yba.underlying22
  go_enter Yba.func7, Yba.ntmps7
  go_wp2
  go_ret
  exact ⟨rfl, rfl⟩

/-- A clone of n cells, n at least one. -/
theorem clone8 (b n c : Nat) (f : Nat → Int) (w : World) (hn : 0 < n) (hm : n ≤ 4194304) (hr : Row w b n (fun j => .int .i32 (f j))) :
    Calls Yba.prog 8 #[.slice (some ⟨b, 0, none⟩) n c] w fun e w' => ∃ g cap, e = .returned (.slice (some ⟨g, 0, none⟩) n cap) ∧ w.heap.size ≤ g ∧ Row w' g n (fun j => .int .i32 (f j)) ∧ Below w.heap.size w w' := by
  have q2 := fun (w : World) (a : Option Addr) (n c n' c' : Nat) => Lib.run_eql_slice_nil (P := Yba.prog) w _ _ a n c n' c' Yba.underlying26
  obtain ⟨i0, hi, hz0, hz1, hz2⟩ := info_parts binfo21
  go_enter Yba.func8, Yba.ntmps8
  go_wp2_with (first
    | (at_builtin; refine wpList_append_lies _ rfl _ _ _ rfl w.heap.size 21 i0 (.int .i32 0) 1 4 Yba.underlying26 hi hz0 hz1 hz2 rfl (by decide) (.slice (some ⟨w.heap.size, 0, none⟩) 0 0) 0 [] (by rfl) (own_empty w 21) ⟨b, 0, none⟩ n c ((List.range n).map fun j => Value.int .i32 (f j)) (by rfl) (by simp) (row_list hr _) (by simp [Value.oneCell']) hn (by unfold maxLen; omega) (by omega) (by simp) (w.heap.size + 1) (by simp) ?_; intro g cap w1 hown hgrow hat hlt)
    | go_in)
  go_ret
  have hw : w.heap.size ≤ g := by
    rcases hat with h | h
    · cases h; exact Nat.le_refl _
    · omega
  have hown' : w1.ownsRow w.heap.size 21 1 (.slice (some ⟨g, 0, none⟩) n cap) n ([] ++ (List.range n).map fun j => Value.int .i32 (f j)) := by simpa using hown
  exact ⟨g, cap, by simp, hw, Row.of_own hown' (range_at n _), grown_below hgrow (fun k hk => by cases hk; exact Nat.le_refl _)⟩

theorem clone8_nil (w : World) : Calls Yba.prog 8 #[.slice none 0 0] w fun e w' => e = .returned (.slice none 0 0) ∧ w' = w := by
  have q2 := fun (w : World) (a : Option Addr) (n c n' c' : Nat) => Lib.run_eql_slice_nil (P := Yba.prog) w _ _ a n c n' c' Yba.underlying26
  go_enter Yba.func8, Yba.ntmps8
  go_wp2
  go_ret
  exact ⟨rfl, rfl⟩

end Go.Proofs.Ybulkdxte
