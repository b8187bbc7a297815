/- LawS6213CWhole: slices.Insert on a block's kids, with room or without. -/
import Derived.Test.YbulkdxqmGreatFmtTree
import Derived.Test.YbulkdxqmGreatFmtGrow
namespace Go.Proofs.YbulkdxqmGreatFmt
set_option linter.unusedVariables false
open Go.RowKit

theorem ins70_any (g n c i vb : Nat) (xs vs : List Value) (w : World) (h : Arr w g 25 1 n c xs) (hi : i ≤ n) (hn : 0 < n) (hb : n ≤ 1000) (hv : Arr w vb 25 1 1 1 vs) (hvb : vb ≠ g) :
    Calls Ybaz.prog 70 #[.slice (some ⟨g, 0, none⟩) n c, .int .i64 i, .slice (some ⟨vb, 0, none⟩) 1 1] w fun e w' => ∃ g' c', e = .returned (.slice (some ⟨g', 0, none⟩) (n + 1) c') ∧ Arr w' g' 25 1 (n + 1) c' (insL xs vs i) ∧ (g' = g ∨ w.heap.size ≤ g') ∧ Chg (fun x _ => x = g) w w' := by
  by_cases hr : n < c
  · refine (ins70_room g n c i vb xs vs w h hi hr hv hvb).mono ?_
    rintro e w' ⟨rfl, h1, h2⟩
    rw [Nat.mul_one] at h1
    exact ⟨g, c, rfl, h1, Or.inl rfl, h2⟩
  · obtain rfl : n = c := by have := h.nc; omega
    by_cases hin : i = n
    · subst hin
      refine (ins70_last (some ⟨g, 0, none⟩) g i vb xs vs w (Or.inr rfl) h.cell h.len h.one (by omega) hv).mono ?_
      rintro e w' ⟨c', rfl, h1, h2⟩
      rw [Nat.mul_one] at h1
      exact ⟨w.heap.size, c', rfl, h1, Or.inr (Nat.le_refl _), h2.mono (fun _ _ _ e => False.elim e)⟩
    · refine (ins70_grow g n i vb xs vs w h (by omega) (by omega) hv).mono ?_
      rintro e w' ⟨c', rfl, h1, h2⟩
      rw [Nat.mul_one] at h1
      exact ⟨w.heap.size, c', rfl, h1, Or.inr (Nat.le_refl _), h2.mono (fun _ _ _ e => False.elim e)⟩

/-- The row of one element that a variadic argument lies in. -/
theorem Arr.one1 (w : World) (e : Nat) (v : Value) (h1 : v.oneCell' = true) : Arr (w.alloc (.cells #[v] e)) w.heap.size e 1 1 1 [v] := by
  refine ⟨fun j u hj => ?_, fun j hj => ?_, fun j => frozen_of_row _ _ _ _ _ (heap_alloc_new _ _), ?_, rfl, Nat.le_refl _, by omega, fun u hu => by simp at hu; rw [hu]; exact h1⟩
  · rw [cell_of_row _ _ _ _ _ _ (heap_alloc_new _ _)]
    cases j with
    | zero => simpa using hj
    | succ j => simp at hj
  · obtain rfl : j = 0 := by omega
    rw [cell_of_row _ _ _ _ _ _ (heap_alloc_new _ _)]; rfl
  · unfold World.shape?
    rw [heap_alloc_new]; rfl

theorem ins_rep (b c t : Nat) (xs : List Nat) (hnd : xs.Nodup) (ht : xs[t]? = some b) : insL (xs.map ptr) [ptr c] (t + 1) = (rep b c xs).map ptr := by
  obtain ⟨htl, hbe⟩ := List.getElem?_eq_some_iff.1 ht
  have e : xs = xs.take t ++ b :: xs.drop (t + 1) := by rw [← hbe, ← List.drop_eq_getElem_cons htl, List.take_append_drop]
  have hnd2 : (xs.take t ++ b :: xs.drop (t + 1)).Nodup := by rw [← e]; exact hnd
  have h2 := List.nodup_append.1 hnd2
  have n1 : b ∉ xs.take t := fun hb => h2.2.2 b hb b (by simp) rfl
  have n2 : b ∉ xs.drop (t + 1) := (List.nodup_cons.1 h2.2.1).1
  have hr : rep b c xs = xs.take t ++ b :: c :: xs.drop (t + 1) := (congrArg (rep b c) e).trans (rep_at b c _ _ n1 n2)
  rw [hr]
  unfold insL
  have e1 : (xs.map ptr).take (t + 1) = (xs.take t).map ptr ++ [ptr b] := by
    rw [← List.map_take, List.take_succ_eq_append_getElem htl, List.map_append, hbe]; rfl
  rw [e1, ← List.map_drop]
  simp
end Go.Proofs.YbulkdxqmGreatFmt
