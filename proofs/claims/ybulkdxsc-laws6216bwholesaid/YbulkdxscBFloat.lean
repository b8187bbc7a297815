/- LawS6216BWhole: 1 + float64(v) is a number that equals itself. -/
import Derived.Test.YbulkdxscRows
import Derived.WalkKit
import Derived.WalkLawsBesides
namespace Go.Proofs.Ybulkdxsc
set_option linter.unusedVariables false

/-- No NaN. -/
def NN (x : Nat) : Prop := ∀ s t, Ieee.double.read x ≠ .nan s t

theorem nn_word (neg : Bool) (r : Nat) (h : r ≤ Ieee.double.infRung) : NN (Ieee.double.word neg r) := by
  intro s t
  have h1 : Ieee.double.infRung < Ieee.double.signWeight := by decide
  have h2 : Ieee.double.word neg r % Ieee.double.signWeight = r := by
    unfold Ieee.Format.word
    split
    · rw [Nat.add_mod_left, Nat.mod_eq_of_lt (by omega)]
    · rw [Nat.mod_eq_of_lt (by omega)]
  unfold Ieee.Format.read
  simp only [h2]
  split
  · simp
  · split
    · simp
    · split
      · simp
      · omega

theorem nn_nearest (neg : Bool) (mag : Nat) (place : Int) : NN (Ieee.double.nearest neg mag place) := by
  unfold Ieee.Format.nearest
  split
  · exact nn_word neg 0 (Nat.zero_le _)
  · exact nn_word neg _ (Nat.min_le_right _ _)

theorem order_self (x : Nat) (h : NN x) : Ieee.double.order x x = some .eq := by
  unfold Ieee.Format.order
  cases hx : Ieee.double.read x with
  | nan s t => exact absurd hx (h s t)
  | infinity s => simp [Ieee.Datum.order]
  | number s m i => simp [Ieee.Datum.order]

theorem add_one (x : Nat) (h : NN x) : ∃ r, Ieee.double.add 4607182418800017408 x = some r ∧ NN r := by
  unfold Ieee.Format.add
  have h1 : Ieee.double.read 4607182418800017408 = .number false 4503599627370496 (-52) := by decide
  rw [h1]
  cases hx : Ieee.double.read x with
  | nan s t => exact absurd hx (h s t)
  | infinity s => exact ⟨_, rfl, nn_word s _ (Nat.le_refl _)⟩
  | number s m i => exact ⟨_, rfl, nn_nearest _ _ _⟩

/-- What 1 + float64(v) is. -/
def oneOf (v : Int) : Nat := (Ieee.double.add 4607182418800017408 (FloatKind.f64.nearest v)).getD 0
theorem oneOf_eq (v : Int) : FloatKind.f64.format.add 4607182418800017408 (FloatKind.f64.nearest v) = some (oneOf v) ∧ NN (oneOf v) := by
  obtain ⟨r, hr, hn⟩ := add_one (FloatKind.f64.nearest v) (nn_nearest _ _ _)
  have : oneOf v = r := by unfold oneOf; rw [hr]; rfl
  rw [this]
  exact ⟨hr, hn⟩
theorem oneOf_self (v : Int) : Op.floatEq .f64 (oneOf v) (oneOf v) = true := by
  unfold Op.floatEq
  show (Ieee.double.order _ _ == some .eq) = true
  rw [order_self _ (oneOf_eq v).2]
  rfl

theorem run_add_one (v : Int) (w : World) : (binOp .add 60 (.float .f64 4607182418800017408) (.float .f64 (FloatKind.f64.nearest v))).run Yba.prog w = .ok (.float .f64 (oneOf v)) w := by
  simp [binOp, Op.floatArith, (oneOf_eq v).1]
theorem run_neq_one (v : Int) (w : World) : (binOp .neq 60 (.float .f64 (oneOf v)) (.float .f64 (oneOf v))).run Yba.prog w = .ok (.bool false) w := by
  have h : FloatKind.f64.format.order (oneOf v) (oneOf v) = some .eq := order_self _ (oneOf_eq v).2
  simp [binOp, Op.floatCmp, h]
end Go.Proofs.Ybulkdxsc
