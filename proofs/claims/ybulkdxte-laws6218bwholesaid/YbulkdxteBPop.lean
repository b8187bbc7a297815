/- LawS6218BWhole: zzs6218bsame, marks.leave and traversal.pop by their contracts. -/
import Derived.Test.YbulkdxteBClone
import Derived.Deep.RegionHeldLaw
import Derived.Deep.RegionLaw
namespace Go.Proofs.Ybulkdxte
set_option linter.unusedVariables false
open Go.RowKit

theorem drewNC (w : World) (a b : Nat) : (w.drewN a).drewN b = w.drewN (a + b) := by simp [World.drewN, Nat.add_assoc]

theorem same_nil (w : World) : Calls Yba.prog 10 #[.slice none 0 0, .slice none 0 0] w fun e w' => e = .returned (.bool true) ∧ ∃ nq, w' = w.drewN nq := by
  have q2 := fun (w : World) (a : Option Addr) (n c n' c' : Nat) => Lib.run_eql_slice_nil (P := Yba.prog) w _ _ a n c n' c' Yba.underlying22
  go_enter Yba.func10, Yba.ntmps10
  go_wp2
  go_loopw [5] (fun v wr => v = .int .i64 0 ∧ w = wr) (fun v _ => 0)
  case atStart => exact ⟨rfl, rfl⟩
  case round =>
    obtain ⟨rfl, rfl⟩ := hrel
    go_wp2
    go_ret
    exact ⟨rfl, 0, rfl⟩

theorem same_row (a b n c c' : Nat) (f : Nat → Bool) (w : World) (hn : n ≤ 4194304) (ha : Row w a n (fun j => .bool (f j))) (hb : Row w b n (fun j => .bool (f j))) :
    Calls Yba.prog 10 #[.slice (some ⟨a, 0, none⟩) n c, .slice (some ⟨b, 0, none⟩) n c'] w fun e w' => e = .returned (.bool true) ∧ ∃ nq, w' = w.drewN nq := by
  have q2 := fun (w : World) (a : Option Addr) (n c n' c' : Nat) => Lib.run_eql_slice_nil (P := Yba.prog) w _ _ a n c n' c' Yba.underlying22
  go_enter Yba.func10, Yba.ntmps10
  go_wp2
  go_loopw [5] (fun v wr => ∃ t nq : Nat, t ≤ n ∧ v = .int .i64 t ∧ wr = w.drewN nq) (fun v _ => n - (intOf v).toNat)
  case atStart => exact ⟨0, 0, Nat.zero_le _, rfl, rfl⟩
  case round =>
    obtain ⟨t, nq0, ht, rfl, rfl⟩ := hrel
    by_cases htl : t < n
    · have x1 := ha.cell t htl
      have x2 := hb.cell t htl
      have n1 : (t : Int) < (n : Int) := by omega
      have n4 : (0 : Int) ≤ (t : Int) := by omega
      go_wp2
      go_quiet (fail)
      go_wp2
      go_roundw
      case rel => exact ⟨t + 1, _, by omega, by go_num, by first | rfl | exact drewNC _ _ _⟩
      case measure => simp [intOf]; omega
    · go_wp2
      go_ret
      exact ⟨rfl, _, rfl⟩

/-- What leave makes of the marks. -/
def clr (f : Nat → Bool) (g : Bool) (i : Nat) (j : Nat) : Bool := if g = false ∧ j = i then false else f j

theorem Row.clear {w : World} {b n : Nat} {f : Nat → Bool} (h : Row w b n (fun j => .bool (f j))) (i : Nat) (hi : i < n) : Row (w.setCell ⟨b, i, none⟩ (.bool false)) b n (fun j => .bool (clr f false i j)) := by
  refine ⟨by simpa using h.lt, fun j hj => ?_, fun j => by rw [World.frozen?_setCell]; exact h.free j⟩
  by_cases e : j = i
  · subst e
    rw [World.cell?_setCell_same _ _ _ (h.cell j hi)]; simp [clr]
  · rw [World.cell?_setCell_other _ _ _ _ (by intro x; cases x; exact e rfl), h.cell j hj]; simp [clr, e]

theorem leave_nil (g : Bool) (i : Int) (w : World) : Calls Yba.prog 12 #[.agg #[.slice none 0 0, .bool g], .int .i32 i] w fun e w' => e = .returned (.tuple #[]) ∧ w' = w.alloc (.cells #[.slice none 0 0, .bool g] 48) := by
  have q1 := fun (w : World) (a : Option Addr) (n c n' c' : Nat) => run_neq_slice_nil_any (P := Yba.prog) w _ _ a n c n' c' Yba.underlying22
  go_enter Yba.func12, Yba.ntmps12
  go_wp2
  go_end0
  exact ⟨rfl, rfl⟩
theorem leave_global (b n c : Nat) (i : Int) (w : World) : Calls Yba.prog 12 #[.agg #[.slice (some ⟨b, 0, none⟩) n c, .bool true], .int .i32 i] w fun e w' => e = .returned (.tuple #[]) ∧ w' = w.alloc (.cells #[.slice (some ⟨b, 0, none⟩) n c, .bool true] 48) := by
  have q1 := fun (w : World) (a : Option Addr) (n c n' c' : Nat) => run_neq_slice_nil_any (P := Yba.prog) w _ _ a n c n' c' Yba.underlying22
  go_enter Yba.func12, Yba.ntmps12
  go_wp2
  go_end0
  exact ⟨rfl, rfl⟩
theorem leave_row (b n c i : Nat) (f : Nat → Bool) (w : World) (hi : i < n) (hn : n ≤ 4194304) (h : Row w b n (fun j => .bool (f j))) : Calls Yba.prog 12 #[.agg #[.slice (some ⟨b, 0, none⟩) n c, .bool false], .int .i32 (i : Int)] w fun e w' => e = .returned (.tuple #[]) ∧ w' = (w.setCell ⟨b, i, none⟩ (.bool false)).alloc (.cells #[.slice (some ⟨b, 0, none⟩) n c, .bool false] 48) := by
  have q1 := fun (w : World) (a : Option Addr) (n c n' c' : Nat) => run_neq_slice_nil_any (P := Yba.prog) w _ _ a n c n' c' Yba.underlying22
  have x1 := h.cell i hi
  have x2 := h.free i
  have x3 := h.lt
  have n1 : (i : Int) < (n : Int) := by omega
  go_enter Yba.func12, Yba.ntmps12
  go_wp2
  go_end0
  exact ⟨rfl, rfl⟩

/-- The marks behind leave. -/
structure Left (w w' : World) (xb : Option Nat) (n : Nat) (f : Nat → Bool) (g : Bool) (i : Nat) : Prop where
  size : w.heap.size ≤ w'.heap.size
  row : ∀ b, xb = some b → Row w' b n (fun j => .bool (clr f g i j))
  blk : ∀ x, x < w.heap.size → xb ≠ some x → w'.heap[x]? = w.heap[x]?
  bel : ∀ B, (∀ b, xb = some b → B ≤ b) → B ≤ w.heap.size → Below B w w'

theorem leave_any (xb : Option Nat) (n c i : Nat) (f : Nat → Bool) (g : Bool) (w : World) (hi : i < n) (hn : n ≤ 4194304) (h : ∀ b, xb = some b → Row w b n (fun j => .bool (f j))) :
    Calls Yba.prog 12 #[.agg #[sval xb n c, .bool g], .int .i32 (i : Int)] w fun e w' => e = .returned (.tuple #[]) ∧ Left w w' xb n f g i := by
  cases xb with
  | none =>
    refine (leave_nil g i w).mono ?_
    rintro e w' ⟨rfl, rfl⟩
    exact ⟨rfl, by simp, (fun b e => by cases e), (fun x hx _ => Below.heap_alloc _ _ _ hx), fun B _ hB => (Below.refl _ _).alloc hB _⟩
  | some b =>
    have hr := h b rfl
    cases g with
    | true =>
      refine (leave_global b n c i w).mono ?_
      rintro e w' ⟨rfl, rfl⟩
      refine ⟨rfl, by simp, fun b' e => ?_, fun x hx _ => Below.heap_alloc _ _ _ hx, fun B _ hB => (Below.refl _ _).alloc hB _⟩
      cases e
      have : (fun j => Value.bool (clr f true i j)) = fun j => Value.bool (f j) := by funext j; simp [clr]
      rw [this]
      exact hr.later (by simp) (Below.heap_alloc _ _ _ hr.lt)
    | false =>
      refine (leave_row b n c i f w hi hn hr).mono ?_
      rintro e w' ⟨rfl, rfl⟩
      have h1 := hr.clear i hi
      have hs : (w.setCell ⟨b, i, none⟩ (.bool false)).heap.size = w.heap.size := by simp
      refine ⟨rfl, by simp, fun b' e => ?_, fun x hx hne => ?_, fun B hB hB2 => ?_⟩
      · cases e
        exact h1.later (by simp) (Below.heap_alloc _ _ _ h1.lt)
      · rw [Below.heap_alloc _ _ _ (by omega)]
        exact Below.heap_setCell _ _ _ _ (fun e => hne (by rw [e]))
      · exact ((Below.refl _ _).setCell (hB b rfl) _).alloc (by omega) _

theorem tb_cell {w w' : World} {tb j : Nat} {T : Array Value} {v : Value} (hT : w.heap[tb]? = some (.cells T 58 (0, 0))) (e : w'.heap[tb]? = w.heap[tb]?) (hj : T[j]? = some v) : w'.cell? ⟨tb, j, none⟩ = some v := by
  rw [cell_of_row _ _ _ _ _ _ (e.trans hT)]; exact hj

/-- How it stands behind pop. -/
structure Popped (w w' : World) (tb eb pb m : Nat) (vb ub : Option Nat) (nv ne : Nat) (fv fe : Nat → Bool) (vg eg : Bool) (vi ei : Nat) (T : Array Value) : Prop where
  c19 : w'.cell? ⟨tb, 19, none⟩ = some (.slice (some ⟨pb, 0, none⟩) (m + 1) (m + 2))
  c20 : w'.cell? ⟨tb, 20, none⟩ = some (.slice (some ⟨eb, 0, none⟩) m (m + 1))
  cell : ∀ j v, T[j]? = some v → j ≠ 19 → j ≠ 20 → w'.cell? ⟨tb, j, none⟩ = some v
  rowv : ∀ b, vb = some b → Row w' b nv (fun j => .bool (clr fv vg vi j))
  rowe : ∀ b, ub = some b → Row w' b ne (fun j => .bool (clr fe eg ei j))
  size : w.heap.size ≤ w'.heap.size
  blk : ∀ x, x < w.heap.size → x ≠ tb → vb ≠ some x → ub ≠ some x → w'.heap[x]? = w.heap[x]?
  bel : ∀ B, (∀ b, vb = some b → B ≤ b) → (∀ b, ub = some b → B ≤ b) → B ≤ tb → B ≤ w.heap.size → Below B w w'

theorem Popped.of {w w1 w2 : World} {tb eb pb m : Nat} {vb ub : Option Nat} {nv ne : Nat} {fv fe : Nat → Bool} {vg eg : Bool} {vi ei : Nat} {T : Array Value} {o19 o20 : Value} (htb : tb < w.heap.size) (h1 : Left w.drew w1 ub ne fe eg ei) (h2 : Left w1.drew w2 vb nv fv vg vi) (hT2 : w2.heap[tb]? = some (.cells T 58 (0, 0)))
    (t19 : T[19]? = some o19) (t20 : T[20]? = some o20) (hv : ∀ b, vb = some b → b ≠ tb ∧ ub ≠ some b) (hu : ∀ b, ub = some b → b ≠ tb) :
    Popped w (((w2.setCell ⟨tb, 19, none⟩ (.slice (some ⟨pb, 0, none⟩) (m + 1) (m + 2))).setCell ⟨tb, 20, none⟩ (.slice (some ⟨eb, 0, none⟩) m (m + 1))).drew) tb eb pb m vb ub nv ne fv fe vg eg vi ei T := by
  have s1 : w.heap.size ≤ w1.heap.size := h1.size
  have s2 : w1.heap.size ≤ w2.heap.size := h2.size
  have g19 : w2.cell? ⟨tb, 19, none⟩ = some o19 := by rw [cell_of_row _ _ _ _ _ _ hT2]; exact t19
  have g20 : w2.cell? ⟨tb, 20, none⟩ = some o20 := by rw [cell_of_row _ _ _ _ _ _ hT2]; exact t20
  obtain ⟨W, hW⟩ : ∃ W, W = (w2.setCell ⟨tb, 19, none⟩ (.slice (some ⟨pb, 0, none⟩) (m + 1) (m + 2))).setCell ⟨tb, 20, none⟩ (.slice (some ⟨eb, 0, none⟩) m (m + 1)) := ⟨_, rfl⟩
  have hz : W.heap.size = w2.heap.size := by rw [hW]; simp
  have far : ∀ x, x ≠ tb → W.heap[x]? = w2.heap[x]? := fun x hx => by rw [hW, Below.heap_setCell _ _ _ _ hx, Below.heap_setCell _ _ _ _ hx]
  have c19 : W.cell? ⟨tb, 19, none⟩ = some (.slice (some ⟨pb, 0, none⟩) (m + 1) (m + 2)) := by
    rw [hW, World.cell?_setCell_other _ _ _ _ (by simp)]; exact World.cell?_setCell_same _ _ _ g19
  have c20 : W.cell? ⟨tb, 20, none⟩ = some (.slice (some ⟨eb, 0, none⟩) m (m + 1)) := by
    rw [hW]; exact World.cell?_setCell_same _ _ _ (by rw [World.cell?_setCell_other _ _ _ _ (by simp)]; exact g20)
  have cj : ∀ j v, T[j]? = some v → j ≠ 19 → j ≠ 20 → W.cell? ⟨tb, j, none⟩ = some v := fun j v hj h19 h20 => by
    rw [hW, World.cell?_setCell_other _ _ _ _ (by intro e; cases e; exact h20 rfl), World.cell?_setCell_other _ _ _ _ (by intro e; cases e; exact h19 rfl), cell_of_row _ _ _ _ _ _ hT2]; exact hj
  rw [← hW]
  refine ⟨c19, c20, cj, fun b e => ?_, fun b e => ?_, ?_, fun x hx h3 h4 h5 => ?_, fun B hB1 hB2 hB3 hB4 => ?_⟩
  · exact ((h2.row b e).later (Nat.le_of_eq hz.symm) (far b (hv b e).1)).later (Nat.le_refl _) rfl
  · have hr := h1.row b e
    have hne : vb ≠ some b := fun e2 => (hv b e2).2 e
    have hr2 : Row w2 b ne _ := hr.later s2 (h2.blk b hr.lt hne)
    exact (hr2.later (Nat.le_of_eq hz.symm) (far b (hu b e))).later (Nat.le_refl _) rfl
  · show w.heap.size ≤ W.heap.size
    omega
  · show W.heap[x]? = w.heap[x]?
    rw [far x h3, h2.blk x (Nat.lt_of_lt_of_le hx s1) h4, ]
    exact h1.blk x hx h5
  · have b1 : Below B w w1 := by
      have := h1.bel B hB2 hB4
      exact ⟨this.os, this.tape, this.output, this.size, this.block⟩
    have b2 : Below B w1 w2 := by
      have := h2.bel B hB1 (Nat.le_trans hB4 s1)
      exact ⟨this.os, this.tape, this.output, this.size, this.block⟩
    have b3 : Below B w W := by rw [hW]; exact (((b1.trans b2).setCell hB3 _).setCell hB3 _)
    exact b3.drew

set_option maxHeartbeats 2000000 in
theorem pop_any (tb eb pb m nv ne cv ce vi ei : Nat) (vb ub : Option Nat) (vg eg : Bool) (fv fe : Nat → Bool) (T : Array Value) (w : World) (hk2 : m + 1 ≤ 1048577) (hnv : nv ≤ 4194304) (hne : ne ≤ 4194304) (hvi : vi < nv) (hei : ei < ne)
    (hT : w.heap[tb]? = some (.cells T 58 (0, 0))) (t9 : T[9]? = some (sval vb nv cv)) (t10 : T[10]? = some (.bool vg)) (t11 : T[11]? = some (sval ub ne ce)) (t12 : T[12]? = some (.bool eg)) (t19 : T[19]? = some (.slice (some ⟨pb, 0, none⟩) (m + 2) (m + 2))) (t20 : T[20]? = some (.slice (some ⟨eb, 0, none⟩) (m + 1) (m + 1)))
    (hE : w.cell? ⟨eb, m, none⟩ = some (.int .i32 (ei : Int))) (hP : w.cell? ⟨pb, m + 1, none⟩ = some (.int .i32 (vi : Int))) (heb : eb < w.heap.size) (hpb : pb < w.heap.size) (hte : tb ≠ eb) (htp : tb ≠ pb)
    (hv : ∀ b, vb = some b → Row w b nv (fun j => .bool (fv j)) ∧ b ≠ tb ∧ b ≠ eb ∧ b ≠ pb ∧ ub ≠ some b) (hu : ∀ b, ub = some b → Row w b ne (fun j => .bool (fe j)) ∧ b ≠ tb ∧ b ≠ eb ∧ b ≠ pb) :
    Calls Yba.prog 9 #[.pointer (some ⟨tb, 0, none⟩)] w fun e w' => e = .returned (.tuple #[]) ∧ Popped w w' tb eb pb m vb ub nv ne fv fe vg eg vi ei T := by
  have s0 : w.heap[tb]? = w.heap[tb]? := rfl
  have c11 := tb_cell hT s0 t11
  have c12 := tb_cell hT s0 t12
  have c20 := tb_cell hT s0 t20
  have hub : ub ≠ some tb := fun e => (hu tb e).2.1 rfl
  have hue : ub ≠ some eb := fun e => (hu eb e).2.2.1 rfl
  have hup : ub ≠ some pb := fun e => (hu pb e).2.2.2 rfl
  have htb := (Array.getElem?_eq_some_iff.1 hT).1
  go_enter Yba.func9, Yba.ntmps9
  go_upto_region 1 with fail
  go_region_held (fun w' : World => w'.cell? ⟨tb, 11, none⟩ = some (sval ub ne ce) ∧ w'.cell? ⟨tb, 12, none⟩ = some (.bool eg) ∧ w'.cell? ⟨tb, 20, none⟩ = some (.slice (some ⟨eb, 0, none⟩) (m + 1) (m + 1)) ∧ w'.cell? ⟨eb, m, none⟩ = some (.int .i32 (ei : Int))) (first | exact hkeep1 | go_keep)
    (first | (go_at_call 12; go_must (refine (leave_any ub ne ce ei fe eg w.drew hei hne (fun b e => ((hu b e).1).later (Nat.le_refl _) rfl)).mono ?_; rintro e w1 ⟨rfl, hL1⟩; have hkeep1 := And.intro (tb_cell hT (hL1.blk tb htb hub) t11) (And.intro (tb_cell hT (hL1.blk tb htb hub) t12) (And.intro (tb_cell hT (hL1.blk tb htb hub) t20) ((World.cell?_of_block (w := w) (hL1.blk eb heb hue)).trans hE))))))
  have hs1 := hL1.size
  have e1 : w1.heap[tb]? = w.heap[tb]? := hL1.blk tb htb hub
  have hT1 : w1.heap[tb]? = some (.cells T 58 (0, 0)) := e1.trans hT
  have d9 := tb_cell hT e1 t9
  have d10 := tb_cell hT e1 t10
  have d19 := tb_cell hT e1 t19
  have dP := (World.cell?_of_block (w := w) (hL1.blk pb hpb hup)).trans hP
  have hvb : vb ≠ some tb := fun e => (hv tb e).2.1 rfl
  have hve : vb ≠ some eb := fun e => (hv eb e).2.2.1 rfl
  have hvp : vb ≠ some pb := fun e => (hv pb e).2.2.2.1 rfl
  have hv1 : ∀ b, vb = some b → Row w1 b nv (fun j => .bool (fv j)) := fun b e => ((hv b e).1).later hs1 (hL1.blk b ((hv b e).1).lt (hv b e).2.2.2.2)
  have htb1 : tb < w1.heap.size := Nat.lt_of_lt_of_le htb hs1
  have hpb1 : pb < w1.heap.size := Nat.lt_of_lt_of_le hpb hs1
  have HL1 : Hid (Left w.drew w1 ub ne fe eg ei) := hL1
  clear hkeep1 hL1 c11 c12 c20 hE hP
  have b1 : (0 : Int) ≤ (m : Int) + 1 := by omega
  have b2 : (m : Int) + 1 < ((m + 2 : Nat) : Int) := by omega
  have b3 : (m : Int) + 1 < (m : Int) + 2 := by omega
  have b4 : ((m : Int) + 1).toNat = m + 1 := by omega
  have b5 : ¬ ((m : Int) + 1 < 0) := by omega
  have b6 : IntKind.i64.wrap ((m : Int) + 1) = (m : Int) + 1 := by rw [IntKind.wrap_i64]; omega
  go_upto_region 2 with fail
  go_region_held (fun w' : World => w'.cell? ⟨tb, 9, none⟩ = some (sval vb nv cv) ∧ w'.cell? ⟨tb, 10, none⟩ = some (.bool vg) ∧ w'.cell? ⟨tb, 19, none⟩ = some (.slice (some ⟨pb, 0, none⟩) (m + 2) (m + 2)) ∧ w'.cell? ⟨pb, m + 1, none⟩ = some (.int .i32 (vi : Int))) (first | exact hkeep2 | go_keep)
    (first | (go_at_call 12; go_must (refine (leave_any vb nv cv vi fv vg w1.drew hvi hnv (fun b e => (hv1 b e).later (Nat.le_refl _) rfl)).mono ?_; rintro e w2 ⟨rfl, hL2⟩; have hkeep2 := And.intro (tb_cell hT1 (hL2.blk tb htb1 hvb) t9) (And.intro (tb_cell hT1 (hL2.blk tb htb1 hvb) t10) (And.intro (tb_cell hT1 (hL2.blk tb htb1 hvb) t19) ((World.cell?_of_block (w := w1) (hL2.blk pb hpb1 hvp)).trans dP))))))
  have hs2 := hL2.size
  have e2 : w2.heap[tb]? = w1.heap[tb]? := hL2.blk tb htb1 hvb
  have hT2 : w2.heap[tb]? = some (.cells T 58 (0, 0)) := e2.trans hT1
  have f19 := tb_cell hT1 e2 t19
  have f20 := tb_cell hT1 e2 t20
  have z19 : w2.frozen? ⟨tb, 19, none⟩ = false := frozen_of_row _ _ _ _ _ hT2
  have z20 : w2.frozen? ⟨tb, 20, none⟩ = false := frozen_of_row _ _ _ _ _ hT2
  have HL2 : Hid (Left w1.drew w2 vb nv fv vg vi) := hL2
  clear hkeep2 hL2 d9 d10 d19 dP
  go_upto_region 3 with fail
  go_region
  go_wp2
  go_end0
  exact ⟨rfl, Popped.of htb HL1.out HL2.out hT2 t19 t20 (fun b e => ⟨(hv b e).2.1, (hv b e).2.2.2.2⟩) (fun b e => (hu b e).2.1)⟩
end Go.Proofs.Ybulkdxte
