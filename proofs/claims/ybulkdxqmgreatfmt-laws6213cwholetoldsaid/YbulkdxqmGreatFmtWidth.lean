/- LawS6213CWhole: slices.BinarySearchFunc over a submitter's widths; its closure. -/
import Derived.Test.YbulkdxqmGreatFmtGrow
namespace Go.Proofs.YbulkdxqmGreatFmt
set_option linter.unusedVariables false
set_option linter.unusedSimpArgs false
open Go.RowKit

theorem clos44 (a b v : Int) (w : World) : Calls Ybaz.prog 44 #[.agg #[.int .i64 a, .int .i64 b], .int .i64 v] w fun e w' => e = .returned (.int .i64 (cmpI a v)) ∧ Below w.heap.size w w' := by
  go_enter Ybaz.func44, Ybaz.ntmps44
  go_wp2_with (first | (go_at_call 5; refine (compare5 _ _ _).mono ?_; rintro e w1 ⟨rfl, hw⟩; subst hw) | go_in)
  go_ret
  exact ⟨rfl, (Below.refl _ _).alloc (Nat.le_refl _) _⟩

theorem cmpI_lt (a v : Int) : cmpI a v < 0 ↔ a < v := by
  unfold cmpI
  by_cases h1 : a < v
  · simp [h1]
  · by_cases h2 : v < a
    · simp [h1, h2]
    · simp [h1, h2]
theorem cmpI_eq (a v : Int) : cmpI a v = 0 ↔ a = v := by
  unfold cmpI
  by_cases h1 : a < v
  · simp [h1]; omega
  · by_cases h2 : v < a
    · simp [h1, h2]; omega
    · simp [h1, h2]; omega

set_option maxHeartbeats 2000000 in
set_option maxRecDepth 100000 in
theorem search43 (base : Option Addr) (g n c t : Nat) (ss js : Nat → Int) (v : Int) (w : World) (hn : n ≤ 1000000) (hbase : 0 < n → base = some ⟨g, 0, none⟩) (hcell : ∀ i, i < n → w.cell? ⟨g, i * 2, none⟩ = some (.int .i64 (ss i)) ∧ w.cell? ⟨g, i * 2 + 1, none⟩ = some (.int .i64 (js i))) (ht : t ≤ n) (hlo : ∀ i, i < t → ss i < v) (hhi : ∀ i, t ≤ i → i < n → v ≤ ss i) :
    Calls Ybaz.prog 43 #[.slice base n c, .int .i64 v, .func (.func 44) #[] #[]] w fun e w' => e = .returned (.tuple #[.int .i64 t, .bool (decide (t < n ∧ ss t = v))]) ∧ Below w.heap.size w w' := by
  have HC : Hid (∀ i, i < n → w.cell? ⟨g, i * 2, none⟩ = some (.int .i64 (ss i)) ∧ w.cell? ⟨g, i * 2 + 1, none⟩ = some (.int .i64 (js i))) := hcell
  have H1 : Hid (∀ i, i < t → ss i < v) := hlo
  have H2 : Hid (∀ i, t ≤ i → i < n → v ≤ ss i) := hhi
  have HB : Hid (0 < n → base = some ⟨g, 0, none⟩) := hbase
  clear hcell hlo hhi hbase
  go_enter Ybaz.func43, Ybaz.ntmps43
  go_wp2
  go_loopw [9, 10] (fun vi vj wr => ∃ i j : Nat, i ≤ t ∧ t ≤ j ∧ j ≤ n ∧ vi = .int .i64 i ∧ vj = .int .i64 j ∧ Below w.heap.size w wr) (fun vi vj _ => (intOf vj).toNat - (intOf vi).toNat)
  case atStart => exact ⟨0, n, Nat.zero_le _, ht, Nat.le_refl _, rfl, rfl, Below.refl _ _⟩
  case round =>
    rename World => w2
    obtain ⟨i, j, hi, hj, hjn, rfl, rfl, hB⟩ := hrel
    have HB2 : Hid (Below w.heap.size w w2) := hB
    clear hB
    have go2 : ∀ h, h < n → w2.cell? ⟨g, h * 2, none⟩ = some (.int .i64 (ss h)) ∧ w2.cell? ⟨g, h * 2 + 1, none⟩ = some (.int .i64 (js h)) := fun h hh => by
      obtain ⟨a1, a2⟩ := HC.out h hh
      have hg := World.block_lt_of_cell? _ _ a1
      exact ⟨(HB2.out.cell (p := ⟨g, h * 2, none⟩) hg).trans a1, (HB2.out.cell (p := ⟨g, h * 2 + 1, none⟩) hg).trans a2⟩
    have HG2 : Hid (∀ h, h < n → w2.cell? ⟨g, h * 2, none⟩ = some (.int .i64 (ss h)) ∧ w2.cell? ⟨g, h * 2 + 1, none⟩ = some (.int .i64 (js h))) := go2
    clear go2
    by_cases hlt : i < j
    · have k1 : (i : Int) < (j : Int) := by omega
      obtain ⟨h, hh⟩ : ∃ h : Nat, Hid (h = (i + j) / 2) := ⟨_, rfl⟩
      have k2 : IntKind.i64.wrap ((i : Int) + (j : Int)) = (i : Int) + (j : Int) := by rw [IntKind.wrap_i64]; omega
      have kh : ((i : Int) + (j : Int)) / 2 = (h : Int) := by have := hh.out; omega
      have hhi : i ≤ h ∧ h < j := by have := hh.out; omega
      have hhn : h < n := by omega
      have k3 : (h : Int) < (n : Int) := by omega
      obtain ⟨a1, a2⟩ := HG2.out h hhn
      obtain rfl : base = some ⟨g, 0, none⟩ := HB.out (by omega)
      by_cases hlt2 : h < t
      · have s1 : cmpI (ss h) v < 0 := (cmpI_lt _ _).2 (H1.out h hlt2)
        go_wp2_with (first | (go_at_call 44; refine (clos44 _ _ _ _).mono ?_; rintro e w1 ⟨rfl, hB1⟩; have HB1 : Hid (Below w2.heap.size w2 w1) := hB1; clear hB1) | go_in)
        go_roundw
        case rel => exact ⟨h + 1, j, by omega, by omega, by omega, by go_num, rfl, HB2.out.trans ⟨HB1.out.os, HB1.out.tape, HB1.out.output, HB1.out.size, fun k hk => HB1.out.block k (Nat.lt_of_lt_of_le hk HB2.out.size)⟩⟩
        case measure => simp [intOf]; omega
      · have s1 : ¬ (cmpI (ss h) v < 0) := fun e => by have h1 := (cmpI_lt _ _).1 e; have h2 := H2.out h (by omega) hhn; omega
        go_wp2_with (first | (go_at_call 44; refine (clos44 _ _ _ _).mono ?_; rintro e w1 ⟨rfl, hB1⟩; have HB1 : Hid (Below w2.heap.size w2 w1) := hB1; clear hB1) | go_in)
        go_roundw
        case rel => exact ⟨i, h, by omega, by omega, by omega, rfl, rfl, HB2.out.trans ⟨HB1.out.os, HB1.out.tape, HB1.out.output, HB1.out.size, fun k hk => HB1.out.block k (Nat.lt_of_lt_of_le hk HB2.out.size)⟩⟩
        case measure => simp [intOf]; omega
    · have hit : i = t := by omega
      subst hit
      by_cases hin : i < n
      · have k1 : (i : Int) < (n : Int) := by omega
        obtain ⟨a1, a2⟩ := HG2.out i hin
        obtain rfl : base = some ⟨g, 0, none⟩ := HB.out (by omega)
        have HD : Hid ((cmpI (ss i) v == 0) = decide (i < n ∧ ss i = v)) := by
          show (cmpI (ss i) v == 0) = decide (i < n ∧ ss i = v)
          by_cases e : ss i = v
          · have := (cmpI_eq (ss i) v).2 e; rw [e] at this; simp [this, hin, e]
          · have h2 : ¬ cmpI (ss i) v = 0 := fun h => e ((cmpI_eq _ _).1 h)
            simp [h2, e]
        go_wp2_with (first | (go_at_call 44; refine (clos44 _ _ _ _).mono ?_; rintro e w1 ⟨rfl, hB1⟩; have HB1 : Hid (Below w2.heap.size w2 w1) := hB1; clear hB1) | go_in)
        go_ret2
        exact ⟨by rw [← HD.out]; simp, HB2.out.trans ⟨HB1.out.os, HB1.out.tape, HB1.out.output, HB1.out.size, fun k hk => HB1.out.block k (Nat.lt_of_lt_of_le hk HB2.out.size)⟩⟩
      · go_wp2_with (first | (go_at_call 44; fail) | go_in)
        go_ret2
        exact ⟨by simp [hin], HB2.out⟩
end Go.Proofs.YbulkdxqmGreatFmt
