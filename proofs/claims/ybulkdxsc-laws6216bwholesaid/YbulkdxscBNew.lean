/- LawS6216BWhole: newSharer, NewLinks, NewNodeSet, Put and NewCongested by their contracts. -/
import Derived.Test.YbulkdxscRows
import Derived.Test.YbulkdxscBOrd
import Derived.WalkKit
import Derived.WalkSpells
import Derived.BigQuiet
import Derived.Deep.QuietTactic
import Derived.Deep.Draws
import Derived.Deep.OwnRows
import Derived.Deep.RegionHeld
import Derived.Deep.RegionLaw
import Derived.BigRegion
import Derived.WalkLawsBesides
namespace Go.Proofs.Ybulkdxsc
set_option linter.unusedVariables false
open Go.RowKit

theorem info3 : (Yba.prog.info? 3).map (fun i => (i.zero, i.size, i.bytes)) = some (some (.int .i64 0), 1, 8) := by kernel_rfl
theorem info60 : (Yba.prog.info? 60).map (fun i => (i.zero, i.size, i.bytes)) = some (some (.float .f64 0), 1, 8) := by kernel_rfl
theorem info31 : (Yba.prog.info? 31).map (fun i => (i.zero, i.size, i.bytes)) = some (some (.int .u64 0), 1, 8) := by kernel_rfl
theorem info50 : (Yba.prog.info? 50).map (fun i => (i.zero, i.size, i.bytes)) = some (some (.slice none 0 0), 1, 24) := by kernel_rfl

theorem bel_alloc {w w1 : World} (h : Below w.heap.size w w1) (o : Obj) : Below w.heap.size w (w1.alloc o) := h.alloc h.size o

set_option maxHeartbeats 1000000 in
theorem newSharer_any (ub db n : Nat) (w : World) (hn : n ≤ 1048576) :
    Calls Yba.prog 19 #[.slice (some ⟨ub, 0, none⟩) n n, .slice (some ⟨db, 0, none⟩) n n] w fun e w' => ∃ b, e = .returned (.pointer (some ⟨b, 0, none⟩)) ∧ Below w.heap.size w w' := by
  have mk := run_make_row' (P := Yba.prog) 50 3 (.int .i64 0) 8 Yba.underlying50 info3 rfl .i64 .i64 n (by omega) (by omega)
  go_enter Yba.func19, Yba.ntmps19
  go_wp2
  go_region
  go_wp2
  all_goals (go_ret; exact ⟨_, rfl, by repeat (first | exact Below.refl _ _ | apply Below.drew | apply bel_alloc)⟩)

theorem make_any (t e : TypeId) (z : Value) (by' n : Nat) (ht : Yba.prog.underlying t = some (.slice e)) (hinfo : (Yba.prog.info? e).map (fun i => (i.zero, i.size, i.bytes)) = some (some z, 1, by')) (hz1 : z.cells = #[z]) (hn : n ≤ 1048576) (hb : by' ≤ 64)
    {o : Oper} {a : Act} {w : World} {K : Act → World → Prop} {Q : Exit → Act → World → Prop} (x : Operand) (ho : o.op = .makeSlice t x x) (hx : a.eval x = .int .i64 (n : Int))
    (h : ∀ w', Below w.heap.size w w' → K (a.put o.dst (.slice (some ⟨w.heap.size, 0, none⟩) n n)) w') : o.wp Yba.prog a w K Q := by
  have hm : by' * n ≤ 64 * 1048576 := Nat.mul_le_mul hb hn
  refine wp_make t x ho _ _ _ hx (run_make_row' (P := Yba.prog) t e z by' ht hinfo hz1 .i64 .i64 n (by omega) (by omega) w) (h _ ((Below.refl _ _).alloc (Nat.le_refl _) _))

def LT (u d : Value) (n : Nat) (s : Nat) (v : Value) (w : World) : Prop :=
  match s with
  | 5 | 8 | 17 => v = u
  | 6 | 11 | 14 | 20 => v = d
  | 7 => ∃ x, v = .pointer (some x)
  | 9 | 12 | 15 | 18 | 21 => v = .int .i64 (n : Int)
  | 10 | 13 | 16 | 19 | 22 => ∃ x, v = .slice (some x) n n
  | 23 => ∃ cs, v = .agg cs
  | 24 | 4 => ∃ b, v = .pointer (some ⟨b, 0, none⟩)
  | _ => True
theorem LT.mono (u d : Value) (n : Nat) : ∀ s v (w w' : World), Below w.heap.size w w' → LT u d n s v w → LT u d n s v w' := by
  intro s v w w' hb h
  unfold LT at *
  split at h <;> first | exact h | trivial

theorem call19 {ub db n : Nat} (hn : n ≤ 1048576) {p : String} {af : Array Edge} {a : Act} {w1 : World} {K : Act → World → Prop} {Q : Exit → Act → World → Prop} (e5 : a.eval (.tmp 5) = .slice (some ⟨ub, 0, none⟩) n n) (e6 : a.eval (.tmp 6) = .slice (some ⟨db, 0, none⟩) n n)
    (hK : ∀ b w', Below w1.heap.size w1 w' → K (a.put (some 7) (.pointer (some ⟨b, 0, none⟩))) w') :
    Oper.wp Yba.prog { dst := some 7, op := Op.call { callee := Callee.value (Operand.func 19), args := #[Operand.tmp 5, Operand.tmp 6], argTypes := #[67, 67] }, type := 175, pos := p, after := af, guard := none } a w1 K Q := by
  unfold Oper.wp
  go_simp
  simp only [Act.eval, Array.getD_eq_getD_getElem?] at e5 e6
  rw [e5, e6]
  refine (newSharer_any ub db n w1 hn).mono ?_
  rintro e w' ⟨b, rfl, hb⟩
  exact hK _ _ hb

theorem build183 (x7 x10 x13 x16 x19 x22 : Addr) (n : Nat) :
    (Yba.prog.built 183 [(0, .pointer (some x7)), (4, .slice (some x10) n n), (5, .slice (some x13) n n), (7, .slice (some x16) n n), (9, .slice (some x19) n n), (10, .slice (some x22) n n)]).isSome = true := by kernel_rfl

set_option maxRecDepth 10000 in
set_option maxHeartbeats 1000000 in
theorem newLinks_any (ub db n : Nat) (w : World) (hn : n ≤ 1048576) :
    Calls Yba.prog 13 #[.slice (some ⟨ub, 0, none⟩) n n, .slice (some ⟨db, 0, none⟩) n n] w fun e w' => ∃ b, e = .returned (.pointer (some ⟨b, 0, none⟩)) ∧ Below w.heap.size w w' := by
  go_enter Yba.func13, Yba.ntmps13
  go_wp2
  refine wp_region_typed (by kernel_rfl) 25 rfl (by kernel_rfl) (LT (.slice (some ⟨ub, 0, none⟩) n n) (.slice (some ⟨db, 0, none⟩) n n) n) (LT.mono _ _ _) ?good ?rest
  case good =>
    refine all_arr ?_
    repeat' first | exact all_nil | refine all_cons ?_ ?_
    all_goals (intro dd hdd; cases hdd; intro a w1 hbel hkeep hdep K hK)
    · exact wp_move _ rfl (hK _ _ (Below.refl _ _) (hkeep 0 (by kernel_rfl)))
    · exact wp_move _ rfl (hK _ _ (Below.refl _ _) (hkeep 1 (by kernel_rfl)))
    · have e5 : a.eval (.tmp 5) = _ := hdep 5 (by kernel_rfl)
      have e6 : a.eval (.tmp 6) = _ := hdep 6 (by kernel_rfl)
      exact call19 hn e5 e6 (fun b w' hb => hK _ _ hb ⟨_, rfl⟩)
    · exact wp_move _ rfl (hK _ _ (Below.refl _ _) (hkeep 0 (by kernel_rfl)))
    · exact wp_len _ _ rfl _ Yba.underlying67 _ _ _ (hdep 8 (by kernel_rfl)) (hK _ _ (Below.refl _ _) rfl)
    · exact make_any 177 50 _ 24 n Yba.underlying177 info50 rfl hn (by omega) _ rfl (hdep 9 (by kernel_rfl)) (fun w' hb => hK _ _ hb ⟨_, rfl⟩)
    · exact wp_move _ rfl (hK _ _ (Below.refl _ _) (hkeep 1 (by kernel_rfl)))
    · exact wp_len _ _ rfl _ Yba.underlying67 _ _ _ (hdep 11 (by kernel_rfl)) (hK _ _ (Below.refl _ _) rfl)
    · exact make_any 177 50 _ 24 n Yba.underlying177 info50 rfl hn (by omega) _ rfl (hdep 12 (by kernel_rfl)) (fun w' hb => hK _ _ hb ⟨_, rfl⟩)
    · exact wp_move _ rfl (hK _ _ (Below.refl _ _) (hkeep 1 (by kernel_rfl)))
    · exact wp_len _ _ rfl _ Yba.underlying67 _ _ _ (hdep 14 (by kernel_rfl)) (hK _ _ (Below.refl _ _) rfl)
    · exact make_any 67 60 _ 8 n Yba.underlying67 info60 rfl hn (by omega) _ rfl (hdep 15 (by kernel_rfl)) (fun w' hb => hK _ _ hb ⟨_, rfl⟩)
    · exact wp_move _ rfl (hK _ _ (Below.refl _ _) (hkeep 0 (by kernel_rfl)))
    · exact wp_len _ _ rfl _ Yba.underlying67 _ _ _ (hdep 17 (by kernel_rfl)) (hK _ _ (Below.refl _ _) rfl)
    · exact make_any 75 31 _ 8 n Yba.underlying75 info31 rfl hn (by omega) _ rfl (hdep 18 (by kernel_rfl)) (fun w' hb => hK _ _ hb ⟨_, rfl⟩)
    · exact wp_move _ rfl (hK _ _ (Below.refl _ _) (hkeep 1 (by kernel_rfl)))
    · exact wp_len _ _ rfl _ Yba.underlying67 _ _ _ (hdep 20 (by kernel_rfl)) (hK _ _ (Below.refl _ _) rfl)
    · exact make_any 75 31 _ 8 n Yba.underlying75 info31 rfl hn (by omega) _ rfl (hdep 21 (by kernel_rfl)) (fun w' hb => hK _ _ hb ⟨_, rfl⟩)
    · obtain ⟨x7, e7⟩ : ∃ x, a.eval (.tmp 7) = .pointer (some x) := hdep 7 (by kernel_rfl)
      obtain ⟨x10, e10⟩ : ∃ x, a.eval (.tmp 10) = .slice (some x) n n := hdep 10 (by kernel_rfl)
      obtain ⟨x13, e13⟩ : ∃ x, a.eval (.tmp 13) = .slice (some x) n n := hdep 13 (by kernel_rfl)
      obtain ⟨x16, e16⟩ : ∃ x, a.eval (.tmp 16) = .slice (some x) n n := hdep 16 (by kernel_rfl)
      obtain ⟨x19, e19⟩ : ∃ x, a.eval (.tmp 19) = .slice (some x) n n := hdep 19 (by kernel_rfl)
      obtain ⟨x22, e22⟩ : ∃ x, a.eval (.tmp 22) = .slice (some x) n n := hdep 22 (by kernel_rfl)
      obtain ⟨cs, hcs⟩ := Option.isSome_iff_exists.1 (build183 x7 x10 x13 x16 x19 x22 n)
      exact wp_build 183 _ rfl #[(0, .pointer (some x7)), (4, .slice (some x10) n n), (5, .slice (some x13) n n), (7, .slice (some x16) n n), (9, .slice (some x19) n n), (10, .slice (some x22) n n)] (by simp [e7, e10, e13, e16, e19, e22]) _ (run_build _ _ _ cs hcs) (hK _ _ (Below.refl _ _) ⟨_, rfl⟩)
    · obtain ⟨cs, e23⟩ : ∃ cs, a.eval (.tmp 23) = .agg cs := hdep 23 (by kernel_rfl)
      exact wp_box _ _ rfl cs e23 (hK _ _ ((Below.refl _ _).alloc (Nat.le_refl _) _) ⟨_, rfl⟩)
    · exact wp_assign _ rfl (hK _ _ (Below.refl _ _) (hdep 24 (by kernel_rfl)))
  case rest =>
    intro a w1 hsz hdf hbel hkeep ht
    obtain ⟨b, e4⟩ : ∃ b, a.eval (.tmp 4) = .pointer (some ⟨b, 0, none⟩) := ht 20 _ 4 rfl rfl
    obtain ⟨tm, df⟩ := a
    simp only at hsz hdf
    subst hdf
    clear hkeep ht
    go_wp2
    go_ret
    exact ⟨b, congrArg Ending.returned e4, hbel⟩
end Go.Proofs.Ybulkdxsc
