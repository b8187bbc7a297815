/- LawS6213CWhole: the small functions by their contracts. -/
import Derived.Test.YbulkdxqmGreatFmtRows
import Derived.WalkKit
import Derived.WalkSpells
import Derived.BigQuiet
import Derived.Deep.QuietTactic
import Derived.Deep.Draws
import Derived.Deep.OwnRows
import Derived.Deep.RegionHeld
import Derived.Deep.RegionHeldLaw
import Derived.Deep.RegionLaw
import Derived.BigRegion
import Derived.Lib.SliceRun
import Derived.Deep.DeepCutAuto
import Derived.Laws.Rows
namespace Go.Proofs.YbulkdxqmGreatFmt
set_option linter.unusedVariables false
open Go.RowKit

theorem run_store_floatB (P : Program) (w : World) (a : Addr) (m : Mode) (k : FloatKind) (b : Nat) : (store a (.float k b) m).run P w = stored P w a (.float k b) m := run_store P w a _ m rfl
attribute [local go_sem] run_store_floatB

theorem drewNC (w : World) (a b : Nat) : (w.drewN a).drewN b = w.drewN (a + b) := by simp [World.drewN, Nat.add_assoc]

/-- cmp.Compare. -/
def cmpI (x y : Int) : Int := if x < y then -1 else if y < x then 1 else 0

theorem isNaN10 (x : Int) (w : World) : Calls Ybaz.prog 10 #[.int .i64 x] w fun e w' => e = .returned (.bool false) ∧ w' = w := by
  go_enter Ybaz.func10, Ybaz.ntmps10
  go_wp2
  go_ret
  exact ⟨by simp, rfl⟩

theorem compare5 (x y : Int) (w : World) : Calls Ybaz.prog 5 #[.int .i64 x, .int .i64 y] w fun e w' => e = .returned (.int .i64 (cmpI x y)) ∧ w' = w := by
  by_cases h1 : x < y
  · have E : Hid (cmpI x y = -1) := if_pos h1
    go_enter Ybaz.func5, Ybaz.ntmps5
    go_wp2_with (first | (go_at_call 10; refine (isNaN10 _ _).mono ?_; rintro e w1 ⟨rfl, rfl⟩) | go_in)
    go_ret
    exact ⟨by rw [E.out]; rfl, rfl⟩
  · by_cases h2 : y < x
    · have E : Hid (cmpI x y = 1) := (if_neg h1).trans (if_pos h2)
      go_enter Ybaz.func5, Ybaz.ntmps5
      go_wp2_with (first | (go_at_call 10; refine (isNaN10 _ _).mono ?_; rintro e w1 ⟨rfl, rfl⟩) | go_in)
      go_ret
      exact ⟨by rw [E.out]; rfl, rfl⟩
    · have E : Hid (cmpI x y = 0) := (if_neg h1).trans (if_neg h2)
      go_enter Ybaz.func5, Ybaz.ntmps5
      go_wp2_with (first | (go_at_call 10; refine (isNaN10 _ _).mono ?_; rintro e w1 ⟨rfl, rfl⟩) | go_in)
      go_ret
      exact ⟨by rw [E.out]; rfl, rfl⟩

theorem none30 (x : Int) (w : World) : Calls Ybaz.prog 30 #[.int .i64 x] w fun e w' => e = .returned (.bool false) ∧ w' = w := by
  go_enter Ybaz.func30, Ybaz.ntmps30
  go_wp2
  go_ret
  exact ⟨rfl, rfl⟩

/-- byID on two jobs. -/
theorem byID4 (a b : Nat) (x y : Int) (w : World) (ha : w.cell? ⟨a, 6, none⟩ = some (.int .i64 x)) (hb : w.cell? ⟨b, 6, none⟩ = some (.int .i64 y)) :
    Calls Ybaz.prog 4 #[.pointer (some ⟨a, 0, none⟩), .pointer (some ⟨b, 0, none⟩)] w fun e w' => e = .returned (.int .i64 (cmpI x y)) ∧ ∃ q, w' = w.drewN q := by
  go_enter Ybaz.func4, Ybaz.ntmps4
  go_upto_region 1 with fail
  go_region_held (fun w' : World => w'.cell? ⟨a, 6, none⟩ = some (.int .i64 x) ∧ w'.cell? ⟨b, 6, none⟩ = some (.int .i64 y)) (first | exact hkeep1 | go_keep)
    (first | (go_at_call 5; go_must (refine (compare5 x y w.drew).mono ?_; rintro e w1 ⟨rfl, rfl⟩; have hkeep1 := And.intro ha hb)))
  go_wp2
  go_ret
  exact ⟨rfl, _, rfl⟩

/-- settle on a queue that holds nothing. -/
theorem settle31_nil (qb qo : Nat) (w : World) (h : w.cell? ⟨qb, qo + 3, none⟩ = some (.pointer none)) :
    Calls Ybaz.prog 31 #[.pointer (some ⟨qb, qo, none⟩)] w fun e w' => e = .returned (.tuple #[]) ∧ w' = w := by
  go_enter Ybaz.func31, Ybaz.ntmps31
  go_wp2
  refine bodyPost_ret (results_none rfl _ _ _) rfl ?_
  exact ⟨rfl, rfl⟩
/-- settle on a queue whose root is not marked. -/
theorem settle31 (qb qo r : Nat) (w : World) (h : w.cell? ⟨qb, qo + 3, none⟩ = some (.pointer (some ⟨r, 0, none⟩))) (hr : w.cell? ⟨r, 23, none⟩ = some (.bool false)) :
    Calls Ybaz.prog 31 #[.pointer (some ⟨qb, qo, none⟩)] w fun e w' => e = .returned (.tuple #[]) ∧ w' = w := by
  go_enter Ybaz.func31, Ybaz.ntmps31
  go_wp2
  refine bodyPost_ret (results_none rfl _ _ _) rfl ?_
  exact ⟨rfl, rfl⟩

/-- +Inf. -/
def INF : Nat := 9218868437227405312
set_option maxRecDepth 100000 in
theorem inf57 (w : World) : Calls Ybaz.prog 57 #[.int .i64 1] w fun e w' => e = .returned (.float .f64 INF) ∧ w' = w := by
  have x1 : (callFunc 79 #[.int .u64 9218868437227405312]).run Ybaz.prog w = .ok (.value (.float .f64 INF)) w := by kernel_rfl
  go_enter Ybaz.func57, Ybaz.ntmps57
  go_wp2
  go_ret
  exact ⟨rfl, rfl⟩

theorem size55_leaf (b n c : Nat) (a : Option Addr) (w : World) (h1 : w.cell? ⟨b, 1, none⟩ = some (.slice none 0 0)) (h2 : w.cell? ⟨b, 2, none⟩ = some (.slice a n c)) :
    Calls Ybaz.prog 55 #[.pointer (some ⟨b, 0, none⟩)] w fun e w' => e = .returned (.int .i64 n) ∧ w' = w := by
  have q2 := fun (w : World) (a : Option Addr) (n c n' c' : Nat) => Lib.run_eql_slice_nil (P := Ybaz.prog) w _ _ a n c n' c' Ybaz.underlying35
  go_enter Ybaz.func55, Ybaz.ntmps55
  go_wp2
  go_ret
  exact ⟨rfl, rfl⟩
theorem size55_inner (b n c : Nat) (a : Addr) (w : World) (h1 : w.cell? ⟨b, 1, none⟩ = some (.slice (some a) n c)) :
    Calls Ybaz.prog 55 #[.pointer (some ⟨b, 0, none⟩)] w fun e w' => e = .returned (.int .i64 n) ∧ w' = w := by
  have q2 := fun (w : World) (a : Option Addr) (n c n' c' : Nat) => Lib.run_eql_slice_nil (P := Ybaz.prog) w _ _ a n c n' c' Ybaz.underlying35
  go_enter Ybaz.func55, Ybaz.ntmps55
  go_wp2
  go_ret
  exact ⟨rfl, rfl⟩
theorem most67_leaf (b : Nat) (w : World) (h1 : w.cell? ⟨b, 1, none⟩ = some (.slice none 0 0)) :
    Calls Ybaz.prog 67 #[.pointer (some ⟨b, 0, none⟩)] w fun e w' => e = .returned (.int .i64 16) ∧ w' = w := by
  have q2 := fun (w : World) (a : Option Addr) (n c n' c' : Nat) => Lib.run_eql_slice_nil (P := Ybaz.prog) w _ _ a n c n' c' Ybaz.underlying35
  go_enter Ybaz.func67, Ybaz.ntmps67
  go_wp2
  go_ret
  exact ⟨rfl, rfl⟩
theorem most67_inner (b n c : Nat) (a : Addr) (w : World) (h1 : w.cell? ⟨b, 1, none⟩ = some (.slice (some a) n c)) :
    Calls Ybaz.prog 67 #[.pointer (some ⟨b, 0, none⟩)] w fun e w' => e = .returned (.int .i64 8) ∧ w' = w := by
  have q2 := fun (w : World) (a : Option Addr) (n c n' c' : Nat) => Lib.run_eql_slice_nil (P := Ybaz.prog) w _ _ a n c n' c' Ybaz.underlying35
  go_enter Ybaz.func67, Ybaz.ntmps67
  go_wp2
  go_ret
  exact ⟨rfl, rfl⟩

/-- at(k) over the kids' first jobs: x is the box that holds the block. -/
theorem kid36 (x b a n c k kd f : Nat) (w : World) (hx : w.cell? ⟨x, 0, none⟩ = some (.pointer (some ⟨b, 0, none⟩))) (h1 : w.cell? ⟨b, 1, none⟩ = some (.slice (some ⟨a, 0, none⟩) n c)) (hk : k < n) (ha : w.cell? ⟨a, k, none⟩ = some (.pointer (some ⟨kd, 0, none⟩))) (hf : w.cell? ⟨kd, 4, none⟩ = some (.pointer (some ⟨f, 0, none⟩))) :
    Calls Ybaz.prog 36 #[.int .i64 k, .pointer (some ⟨x, 0, none⟩)] w fun e w' => e = .returned (.pointer (some ⟨f, 0, none⟩)) ∧ w' = w := by
  have k1 : (k : Int) < (n : Int) := by omega
  go_enter Ybaz.func36, Ybaz.ntmps36
  go_wp2
  go_ret
  exact ⟨rfl, rfl⟩
theorem job37 (x b a n c k f : Nat) (w : World) (hx : w.cell? ⟨x, 0, none⟩ = some (.pointer (some ⟨b, 0, none⟩))) (h1 : w.cell? ⟨b, 2, none⟩ = some (.slice (some ⟨a, 0, none⟩) n c)) (hk : k < n) (ha : w.cell? ⟨a, k, none⟩ = some (.pointer (some ⟨f, 0, none⟩))) :
    Calls Ybaz.prog 37 #[.int .i64 k, .pointer (some ⟨x, 0, none⟩)] w fun e w' => e = .returned (.pointer (some ⟨f, 0, none⟩)) ∧ w' = w := by
  have k1 : (k : Int) < (n : Int) := by omega
  go_enter Ybaz.func37, Ybaz.ntmps37
  go_wp2
  go_ret
  exact ⟨rfl, rfl⟩

theorem min_inf (w : World) : (Builtin.min_ #[28, 28] 28 #[.float .f64 INF, .float .f64 INF]).run Ybaz.prog w = .ok (.float .f64 INF) w := by kernel_rfl
theorem info134 : (Ybaz.prog.info? 134).map (·.size) = some 4 := by kernel_rfl
theorem heap_top3 (w : World) (A B C : Obj) : (((w.alloc A).alloc B).alloc C).heap[w.heap.size + 2]? = some C := by
  have := heap_alloc_new ((w.alloc A).alloc B) C
  simpa using this
theorem join40 (a1 a2 a3 b1 b2 b3 : Int) (w : World) :
    Calls Ybaz.prog 40 #[.agg #[.int .i64 a1, .int .i64 a2, .int .i64 a3, .float .f64 INF], .agg #[.int .i64 b1, .int .i64 b2, .int .i64 b3, .float .f64 INF]] w fun e w' => (∃ c1 c2 c3, e = .returned (.agg #[.int .i64 c1, .int .i64 c2, .int .i64 c3, .float .f64 INF])) ∧ Below w.heap.size w w' := by
  have m1 := min_inf
  go_enter Ybaz.func40, Ybaz.ntmps40
  go_wp2
  all_goals (refine bodyPost_ret (results_cell_row rfl _ _ (w.heap.size + 2) 134 _ (0, 0) _ rfl (heap_top3 _ _ _ _) Ybaz.underlying134 rfl info134) rfl ?_)
  all_goals exact ⟨⟨_, _, _, rfl⟩, (((Below.refl _ _).alloc (Nat.le_refl _) _).alloc (by simp) _).alloc (by simp; omega) _⟩
theorem spanOf32 (j : Nat) (sl : Int) (w : World) (h1 : w.cell? ⟨j, 8, none⟩ = some (.int .i64 sl)) (h2 : w.cell? ⟨j, 4, none⟩ = some (.bool false)) (h3 : w.cell? ⟨j, 18, none⟩ = some (.bool false)) :
    Calls Ybaz.prog 32 #[.pointer (some ⟨j, 0, none⟩)] w fun e w' => e = .returned (.agg #[.int .i64 sl, .int .i64 sl, .int .i64 sl, .float .f64 INF]) ∧ Below w.heap.size w w' := by
  have hj := World.block_lt_of_cell? _ _ h1
  go_enter Ybaz.func32, Ybaz.ntmps32
  go_upto_region 7 with (first | (go_at_call 57; refine (inf57 _).mono ?_; rintro e w1 ⟨rfl, rfl⟩) | go_in)
  go_region
  go_wp2
  refine bodyPost_ret (results_cell_row rfl _ _ w.heap.size 134 _ (0, 0) _ rfl (heap_alloc_new _ _) Ybaz.underlying134 rfl info134) rfl ?_
  exact ⟨rfl, ((Below.refl _ _).alloc (Nat.le_refl _) _).drew⟩
end Go.Proofs.YbulkdxqmGreatFmt
