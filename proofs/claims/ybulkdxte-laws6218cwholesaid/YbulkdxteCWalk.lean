import Derived.Test.YbulkdxteRows
import Derived.WalkKit
namespace Go.Proofs.Ybulkdxte.lawS6218CWhole
open Go.RowKit
set_option linter.unusedVariables false

/-! ### THE PLAIN FUNCTION: the byte that the loop has found behind k rounds -/
def want (s : ByteArray) (n k : Nat) : Int := if h : n < k ∧ n < s.size then ((s[n]'h.2).toNat : Int) else 48
theorem want_zero (s : ByteArray) (n : Nat) : want s n 0 = 48 := by simp [want]
theorem want_hit (s : ByteArray) (n : Nat) (h : n < s.size) : want s n (n + 1) = ((s[n]'h).toNat : Int) := by simp [want, h]
theorem want_miss (s : ByteArray) (n k : Nat) (h : ¬ k = n) : want s n (k + 1) = want s n k := by
  unfold want
  by_cases h1 : n < k
  · have h2 : n < k + 1 := by omega
    simp [h1, h2]
  · have h2 : ¬ n < k + 1 := by omega
    simp [h1, h2]
theorem want_end (s : ByteArray) (n : Nat) (h : n < s.size) : want s n s.size = ((s[n]'h).toNat : Int) := by simp [want, h]
theorem want_past (s : ByteArray) (n : Nat) (h : ¬ n < s.size) : want s n s.size = 48 := by simp [want, h]

/-! ### digitAt -/
theorem digit_in (s : ByteArray) (n : Nat) (h : n < s.size) (w : World) :
    Calls Yba.prog 11 #[.string s, .int .i64 n] w fun e w' => e = .returned (.int .u8 (want s n s.size)) ∧ w' = w := by
  rw [want_end s n h]
  go_enter Yba.func11, Yba.ntmps11
  go_wp2
  go_ret
  exact ⟨rfl, rfl⟩
theorem digit_out (s : ByteArray) (n : Nat) (h : ¬ n < s.size) (w : World) :
    Calls Yba.prog 11 #[.string s, .int .i64 n] w fun e w' => e = .returned (.int .u8 (want s n s.size)) ∧ w' = w := by
  rw [want_past s n h]
  go_enter Yba.func11, Yba.ntmps11
  go_wp2
  go_ret
  exact ⟨rfl, rfl⟩
theorem digit_any (s : ByteArray) (n : Nat) (w : World) :
    Calls Yba.prog 11 #[.string s, .int .i64 n] w fun e w' => e = .returned (.int .u8 (want s n s.size)) ∧ w' = w := by
  by_cases h : n < s.size
  · exact digit_in s n h w
  · exact digit_out s n h w

/-! ### STEP 1: THE WALK: the Go text returns true. -/
set_option maxHeartbeats 400000 in
theorem walk_pos (s : ByteArray) (n : Nat) (hs : s.size ≤ 1048576) (hn : (n : Int) ≤ 9223372036854775807) (w : World) :
    Calls Yba.prog 5 #[.string s, .int .i64 n] w fun e w' => e = .returned (.bool true) ∧ w' = w := by
  go_enter Yba.func5, Yba.ntmps5
  go_wp2
  go_loop [5, 6] (fun t i => ∃ k : Nat, k ≤ s.size ∧ i = .int .i64 k ∧ t = .int .u8 (want s n k)) (fun _ i => s.size - (intOf i).toNat)
  case atStart => exact ⟨0, Nat.zero_le _, rfl, by rw [want_zero]⟩
  case round =>
    obtain ⟨k, hk, rfl, rfl⟩ := hrel
    have hwn : 0 ≤ want s n k := by unfold want; split <;> omega
    have hn63 : (n : Int) ≤ 9223372036854775807 := hn
    by_cases hlt : k < s.size
    · by_cases hkn : k = n
      · subst hkn
        have HS : Hid (want s k (k + 1) = ((s[k]'hlt).toNat : Int)) := want_hit s k hlt
        go_wp2
        go_round
        case rel => exact ⟨k + 1, by omega, by go_num, by rw [HS.out]⟩
        case measure => simp [intOf]; omega
      · have hb : ((k : Int) == (n : Int)) = false := by simp; omega
        have HS : Hid (want s n (k + 1) = want s n k) := want_miss s n k hkn
        clear hkn
        go_wp2
        go_round
        case rel => exact ⟨k + 1, by omega, by go_num, by rw [HS.out]⟩
        case measure => simp [intOf]; omega
    · have hke : k = s.size := by omega
      subst hke
      go_wp2_with (go_at_call 11; refine (digit_any s n _).mono ?_; rintro e w' ⟨rfl, rfl⟩)
      go_ret
      exact ⟨by simp, rfl⟩

set_option maxHeartbeats 400000 in
theorem walk_neg (s : ByteArray) (n : Nat) (hs : s.size ≤ 1048576) (hn : (n : Int) ≤ 9223372036854775807) (w : World) :
    Calls Yba.prog 5 #[.string s, .int .i64 (-(n : Int) - 1)] w fun e w' => e = .returned (.bool true) ∧ w' = w := by
  have hneg : -(n : Int) - 1 < 0 := by omega
  go_enter Yba.func5, Yba.ntmps5
  go_wp2
  go_loop [5, 6] (fun t i => ∃ k : Nat, k ≤ s.size ∧ i = .int .i64 k ∧ t = .int .u8 (want s n k)) (fun _ i => s.size - (intOf i).toNat)
  case atStart => exact ⟨0, Nat.zero_le _, rfl, by rw [want_zero]⟩
  case round =>
    obtain ⟨k, hk, rfl, rfl⟩ := hrel
    have hwn : 0 ≤ want s n k := by unfold want; split <;> omega
    have hn63 : (n : Int) ≤ 9223372036854775807 := hn
    by_cases hlt : k < s.size
    · by_cases hkn : k = n
      · subst hkn
        have HS : Hid (want s k (k + 1) = ((s[k]'hlt).toNat : Int)) := want_hit s k hlt
        go_wp2
        go_round
        case rel => exact ⟨k + 1, by omega, by go_num, by rw [HS.out]⟩
        case measure => simp [intOf]; omega
      · have hb : ((k : Int) == (n : Int)) = false := by simp; omega
        have HS : Hid (want s n (k + 1) = want s n k) := want_miss s n k hkn
        clear hkn
        go_wp2
        go_round
        case rel => exact ⟨k + 1, by omega, by go_num, by rw [HS.out]⟩
        case measure => simp [intOf]; omega
    · have hke : k = s.size := by omega
      subst hke
      go_wp2_with (go_at_call 11; refine (digit_any s n _).mono ?_; rintro e w' ⟨rfl, rfl⟩)
      go_ret
      exact ⟨by simp, rfl⟩

theorem bd_i64 {n : Int} (h : (Lit.int .i64 n).wf = true) : -9223372036854775808 ≤ n ∧ n ≤ 9223372036854775807 := by
  simp [Lit.wf, IntKind.min, IntKind.max, IntKind.signed, IntKind.bits] at h
  omega
theorem walk (a0 : ByteArray) (a1 : Int) (w0 : a0.size ≤ maxLen) (w1 : (Lit.int .i64 a1).wf = true) (w : World) :
    Calls Yba.prog 5 #[.string a0, .int .i64 a1] w fun e w' => e = .returned (.bool true) ∧ Grown w w' := by
  by_cases hs : a0.size ≤ 1048576
  · have hb := bd_i64 w1
    by_cases hp : 0 ≤ a1
    · obtain ⟨n, rfl⟩ := Int.eq_ofNat_of_zero_le hp
      exact (walk_pos a0 n hs (by omega) w).mono fun e w' ⟨he, hw⟩ => ⟨he, hw ▸ Grown.refl _⟩
    · obtain ⟨n, hn⟩ := Int.eq_ofNat_of_zero_le (show 0 ≤ -a1 - 1 by omega)
      obtain rfl : a1 = -(n : Int) - 1 := by omega
      exact (walk_neg a0 n hs (by omega) w).mono fun e w' ⟨he, hw⟩ => ⟨he, hw ▸ Grown.refl _⟩
  · have hs' : (1048576 : Int) < (a0.size : Int) := by omega
    unfold maxLen at w0
    go_enter Yba.func5, Yba.ntmps5
    go_wp2
    go_ret
    exact ⟨rfl, Grown.refl _⟩

end Go.Proofs.Ybulkdxte.lawS6218CWhole
