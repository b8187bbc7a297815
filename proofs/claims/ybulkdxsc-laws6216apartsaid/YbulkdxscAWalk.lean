/- LawS6216APart: honestBlock and setHolding at a run with no honest blocks. -/
import Derived.Test.YbulkdxscAPut
import Derived.Test.YbulkdxscMaps
import Derived.Laws.Pointers
namespace Go.Proofs.Ybulkdxsc
set_option linter.unusedVariables false
open Go.RowKit Go.Maps Go.WideMaps Go.WideElems

set_option maxRecDepth 100000 in
set_option maxHeartbeats 800000 in
theorem honest_nil (sb : Nat) (b : Int) (w : World) (hb0 : 0 < b) (hb1 : b ≤ 4294967296) (h : w.cell? ⟨sb, 2159, none⟩ = some (.slice none 0 0)) :
    Calls Yba.prog 11 #[.pointer (some ⟨sb, 0, none⟩), .int .i64 b] w fun e w' => e = .returned (.pointer none) ∧ w' = w := by
  go_enter Yba.func11, Yba.ntmps11
  go_wp2
  go_ret
  exact ⟨rfl, rfl⟩

theorem key3 : Keyed Yba.prog 3 := int_keyed Yba.underlying3
theorem zero99 (w : World) : (zeroValue 99).run Yba.prog w = .ok (.int .u8 0) w := by kernel_rfl
theorem neq_nil161 (p : Option Addr) (w : World) : (binOp .neq 161 (.pointer p) (.pointer none)).run Yba.prog w = .ok (.bool (!p.isNone)) w := run_neq_pointer_nil w 161 p (by kernel_rfl)
theorem keyI_ok {b : Int} (h0 : 0 < b) (h1 : b ≤ 4294967296) : keyOf Yba.prog 3 (.int .i64 b) = some (.int .i64 b) := keyOf_int_mk Yba.underlying3 (WalkArith.wf_i64 (by omega))
theorem isKeyI (b : Int) : WideAt.IsKeyLit (.int .i64 b) := by simp [WideAt.IsKeyLit]

/-- The count behind a store. -/
def nextC (o : Option (DataW Unit)) (c : Nat) : Nat := if o.isSome then c else c + 1
set_option maxRecDepth 100000 in
set_option maxHeartbeats 800000 in
theorem set_any (sb db kk i mb m c : Nat) (f : Lit → Option (DataW Unit)) (b h : Int) (w : World) (hi : i < kk) (hkk : kk ≤ 8) (hb0 : 0 < b) (hb1 : b ≤ 4294967296) (hh : (Lit.int .u8 h).wf = true) (hm : m < 2000)
    (h1 : w.cell? ⟨sb, 2159, none⟩ = some (.slice none 0 0)) (h2 : w.cell? ⟨sb, 2196, none⟩ = some (.slice (some ⟨db, 0, none⟩) kk kk)) (h3 : w.cell? ⟨db, i * 8, none⟩ = some (.map (some mb)))
    (hmp : MapAt w Yba.prog 3 (plainElem Yba.prog 99) mb m c f) :
    Calls Yba.prog 7 #[.pointer (some ⟨sb, 0, none⟩), .int .i64 i, .int .i64 b, .int .u8 h] w fun e w' => e = .returned (.tuple #[]) ∧ MapAt w' Yba.prog 3 (plainElem Yba.prog 99) mb (m + 1) (nextC (f (.int .i64 b)) c) (putF f (.int .i64 b) (.lit (.int .u8 h))) ∧ w.grownBy w' (some mb) := by
  have hq := neq_nil161
  go_enter Yba.func7, Yba.ntmps7
  go_wp2_with (first
    | (go_at_call 11; refine (honest_nil sb b _ hb0 hb1 h1).mono ?_; rintro e w' ⟨rfl, rfl⟩)
    | (at_mapUpdate; refine wpList_put rfl _ _ _ 85 rfl 99 key3 Yba.underlying85 rfl hmp (by unfold maxLen; omega) _ _ _ rfl rfl (keyI_ok hb0 hb1) (isKeyI _) _ _ (plainElem_int Yba.underlying99 hh) ?_; intro w2 m2 g2))
  go_end0
  exact ⟨rfl, m2, g2⟩
end Go.Proofs.Ybulkdxsc
