/- LawS6213CWhole: slices.Index over pointers to blocks. -/
import Derived.Test.YbulkdxqmGreatFmtSum
import Derived.LaidEqlPtr
namespace Go.Proofs.YbulkdxqmGreatFmt
set_option linter.unusedVariables false
set_option linter.unusedSimpArgs false
open Go.RowKit

theorem eql25_other {a b : Nat} (hne : a ≠ b) (w : World) (ha : Plain w a 142) (hb : Plain w b 142) : (binOp .eql 25 (.pointer (some ⟨a, 0, none⟩)) (.pointer (some ⟨b, 0, none⟩))).run Ybaz.prog w = .ok (.bool false) w := by
  obtain ⟨ca, ha⟩ := ha
  obtain ⟨cb, hb⟩ := hb
  obtain ⟨j, hj, hsz⟩ := Option.map_eq_some_iff.1 (show (Ybaz.prog.info? 142).map (fun i => decide (i.size ≠ 0)) = some true by kernel_rfl)
  exact run_eql_ptr_other w Ybaz.underlying25 hj (by simpa using hsz) (by intro e; cases e; exact hne rfl) ha hb
theorem eql25_same (a : Nat) (w : World) : (binOp .eql 25 (.pointer (some ⟨a, 0, none⟩)) (.pointer (some ⟨a, 0, none⟩))).run Ybaz.prog w = .ok (.bool true) w := by
  obtain ⟨j, hj, hsz⟩ := Option.map_eq_some_iff.1 (show (Ybaz.prog.info? 142).map (fun i => decide (i.size ≠ 0)) = some true by kernel_rfl)
  exact run_eql_ptr_same w _ Ybaz.underlying25 hj

theorem index69 (a n c t b : Nat) (K : Nat → Nat) (w : World) (hn : n ≤ 1000) (ht : t < n) (hk : ∀ i, i < n → w.cell? ⟨a, i, none⟩ = some (.pointer (some ⟨K i, 0, none⟩)) ∧ Plain w (K i) 142) (hne : ∀ i, i < t → K i ≠ b) (hb : K t = b) :
    Calls Ybaz.prog 69 #[.slice (some ⟨a, 0, none⟩) n c, .pointer (some ⟨b, 0, none⟩)] w fun e w' => e = .returned (.int .i64 t) ∧ ∃ q, w' = w.drewN q := by
  have hpb : Plain w b 142 := by rw [← hb]; exact (hk t ht).2
  go_enter Ybaz.func69, Ybaz.ntmps69
  go_wp2
  go_loopw [8] (fun v wr => ∃ i q : Nat, i ≤ t ∧ v = .int .i64 i ∧ wr = w.drewN q) (fun v _ => n - (intOf v).toNat)
  case atStart => exact ⟨0, 0, Nat.zero_le _, rfl, rfl⟩
  case round =>
    obtain ⟨i, q, hi, rfl, rfl⟩ := hrel
    have x1 := (hk i (by omega)).1
    have k1 : (i : Int) < (n : Int) := by omega
    by_cases hit : i = t
    · have e : K i = b := by rw [hit]; exact hb
      rw [e] at x1
      have q1 := fun (W : World) => eql25_same b W
      have E : Hid (i = t) := hit
      clear e hit
      go_wp2
      go_ret
      exact ⟨by rw [← E.out]; rfl, q, rfl⟩
    · have q1 := eql25_other (a := b) (b := K i) (fun e => hne i (by omega) e.symm) (w.drewN q) hpb (hk i (by omega)).2
      go_wp2
      go_roundw
      case rel => exact ⟨i + 1, q, by omega, by go_num, rfl⟩
      case measure => simp [intOf]; omega
end Go.Proofs.YbulkdxqmGreatFmt
