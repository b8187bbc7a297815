/- LawS6216BWhole: NewCongested by its contract. -/
import Derived.Test.YbulkdxscBSet
import Derived.Deep.DeepCutAuto
import Derived.Deep.WholeRow
namespace Go.Proofs.Ybulkdxsc
set_option linter.unusedVariables false
open Go.RowKit

theorem run_store_floatB (P : Program) (w : World) (a : Addr) (m : Mode) (k : FloatKind) (b : Nat) : (store a (.float k b) m).run P w = stored P w a (.float k b) m := run_store P w a _ m rfl
attribute [local go_sem] run_store_floatB

theorem wp_pure {P : Program} {o : Oper} {a : Act} {w : World} {K : Act → World → Prop} {Q : Exit → Act → World → Prop} {v : Value} (hr : (execOp a.eval o).run P w = .ok (.value v) w) (h : K (a.put o.dst v) w) : o.wp P a w K Q := by
  unfold Oper.wp
  rw [hr]
  exact h

theorem mul8 (w : World) : (binOp .mul 60 (.float .f64 4620693217682128896) (.float .f64 0)).run Yba.prog w = .ok (.float .f64 0) w := by kernel_rfl
theorem mul0 (w : World) : (binOp .mul 60 (.float .f64 0) (.float .f64 0)).run Yba.prog w = .ok (.float .f64 0) w := by kernel_rfl
theorem conv0 (w : World) : (convert 3 60 (.int .i64 0)).run Yba.prog w = .ok (.float .f64 0) w := by kernel_rfl

theorem op_move {a : Act} {w : World} {s d : Nat} {t : TypeId} {p : String} {af : Array Edge} {v : Value} (e : a.eval (.tmp s) = v) : (execOp a.eval { dst := some d, op := Op.move (Operand.tmp s), type := t, pos := p, after := af, guard := none }).run Yba.prog w = .ok (.value v) w := by
  unfold execOp
  simp [e]
theorem op_field {a : Act} {w : World} {H s d k : Nat} {t : TypeId} {p : String} {af : Array Edge} (hk : k < 4) (e : a.eval (.tmp s) = .pointer (some ⟨H, 0, none⟩)) : (execOp a.eval { dst := some d, op := Op.fieldAddr 171 (Operand.tmp s) k, type := t, pos := p, after := af, guard := none }).run Yba.prog w = .ok (.value (.pointer (some ⟨H, k, none⟩))) w := by
  unfold execOp
  simp only [e]
  rcases (by omega : k = 0 ∨ k = 1 ∨ k = 2 ∨ k = 3) with rfl | rfl | rfl | rfl <;> kernel_rfl
theorem op_load {a : Act} {w : World} {s d : Nat} {t t2 : TypeId} {x : Addr} {v : Value} {p : String} {af : Array Edge} (e : a.eval (.tmp s) = .pointer (some x)) (hc : w.cell? x = some v) (hl : ∀ w : World, w.cell? x = some v → (Instr.loadAt t (.pointer (some x))).run Yba.prog w = .ok v w) : (execOp a.eval { dst := some d, op := Op.load t (Operand.tmp s), type := t2, pos := p, after := af, guard := none }).run Yba.prog w = .ok (.value v) w := by
  unfold execOp
  simp [e, hl w hc]
theorem load3 (x : Addr) (v : Value) (w : World) (h : w.cell? x = some v) : (Instr.loadAt 3 (.pointer (some x))).run Yba.prog w = .ok v w := by
  simp [go_sem, h]
theorem load60 (x : Addr) (v : Value) (w : World) (h : w.cell? x = some v) : (Instr.loadAt 60 (.pointer (some x))).run Yba.prog w = .ok v w := by
  simp [go_sem, h]
theorem op_conv {a : Act} {w : World} {s d : Nat} {t2 : TypeId} {p : String} {af : Array Edge} (e : a.eval (.tmp s) = .int .i64 0) : (execOp a.eval { dst := some d, op := Op.convert 3 60 (Operand.tmp s), type := t2, pos := p, after := af, guard := none }).run Yba.prog w = .ok (.value (.float .f64 0)) w := by
  unfold execOp
  simp [e, conv0]
theorem op_mul {a : Act} {w : World} {s s' d : Nat} {t2 : TypeId} {p : String} {af : Array Edge} (e : a.eval (.tmp s) = .float .f64 0) (e' : a.eval (.tmp s') = .float .f64 0) : (execOp a.eval { dst := some d, op := Op.binOp .mul 60 (Operand.tmp s) (Operand.tmp s') 60, type := t2, pos := p, after := af, guard := none }).run Yba.prog w = .ok (.value (.float .f64 0)) w := by
  unfold execOp
  simp [e, e', mul0, eqGuard]

/-- The row of n ports. -/
def Ports (w : World) (b n : Nat) : Prop := ∃ cs, w.heap[b]? = some (.cells cs 191 (0, 0)) ∧ cs.size = n * 10
/-- The row of a node set. -/
def SetRow (w : World) (b k : Nat) : Prop := ∃ cs, w.heap[b]? = some (.cells cs 31 (0, 0)) ∧ cs.size = k ∧ ∀ j, j < k → ∃ y, cs[j]? = some (.int .u64 y)
/-- The box of a Congested. -/
def Box (w : World) (b n k rb nb : Nat) : Prop := ∃ cs, w.heap[b]? = some (.cells cs 147 (0, 0)) ∧ cs[6]? = some (.slice (some ⟨rb, 0, none⟩) n n) ∧ cs[10]? = some (.slice (some ⟨nb, 0, none⟩) k k)

theorem Ports.later {w w' : World} {b n : Nat} (h : Ports w b n) (e : w'.heap[b]? = w.heap[b]?) : Ports w' b n := by
  obtain ⟨cs, h1, h2⟩ := h
  exact ⟨cs, e.trans h1, h2⟩
theorem SetRow.later {w w' : World} {b k : Nat} (h : SetRow w b k) (e : w'.heap[b]? = w.heap[b]?) : SetRow w' b k := by
  obtain ⟨cs, h1, h2⟩ := h
  exact ⟨cs, e.trans h1, h2⟩
theorem Box.later {w w' : World} {b n k rb nb : Nat} (h : Box w b n k rb nb) (e : w'.heap[b]? = w.heap[b]?) : Box w' b n k rb nb := by
  obtain ⟨cs, h1, h2⟩ := h
  exact ⟨cs, e.trans h1, h2⟩
theorem lt_of {w : World} {b : Nat} {o : Obj} (h : w.heap[b]? = some o) : b < w.heap.size := (Array.getElem?_eq_some_iff.1 h).1
theorem Ports.lt {w : World} {b n : Nat} (h : Ports w b n) : b < w.heap.size := by obtain ⟨_, h1, _⟩ := h; exact lt_of h1
theorem SetRow.lt {w : World} {b n : Nat} (h : SetRow w b n) : b < w.heap.size := by obtain ⟨_, h1, _⟩ := h; exact lt_of h1
theorem Box.lt {w : World} {b n k rb nb : Nat} (h : Box w b n k rb nb) : b < w.heap.size := by obtain ⟨_, h1, _⟩ := h; exact lt_of h1

def CT (u : Value) (fv : Value) (n k H : Nat) (s : Nat) (v : Value) (w : World) : Prop :=
  match s with
  | 16 => v = fv
  | 17 | 18 | 28 | 21 | 22 | 24 | 31 | 32 => v = .float .f64 0
  | 19 => v = .pointer (some ⟨H, 1, none⟩)
  | 23 => v = .pointer (some ⟨H, 3, none⟩)
  | 29 => v = .pointer (some ⟨H, 2, none⟩)
  | 20 | 30 => v = .int .i64 0
  | 25 | 33 | 36 | 39 => v = u
  | 26 | 34 | 37 | 40 => v = .int .i64 (n : Int)
  | 27 => ∃ rb, v = .slice (some ⟨rb, 0, none⟩) n n ∧ H ≤ rb ∧ Ports w rb n
  | 35 | 38 => ∃ x, v = .slice (some x) n n
  | 41 => ∃ nb, v = .slice (some ⟨nb, 0, none⟩) k k ∧ H ≤ nb ∧ SetRow w nb k
  | 42 => ∃ cs rb nb, v = .agg cs ∧ cs[6]? = some (.slice (some ⟨rb, 0, none⟩) n n) ∧ cs[10]? = some (.slice (some ⟨nb, 0, none⟩) k k) ∧ H ≤ rb ∧ Ports w rb n ∧ H ≤ nb ∧ SetRow w nb k
  | 43 | 10 => ∃ b rb nb, v = .pointer (some ⟨b, 0, none⟩) ∧ H ≤ b ∧ Box w b n k rb nb ∧ H ≤ rb ∧ Ports w rb n ∧ H ≤ nb ∧ SetRow w nb k
  | _ => True
theorem CT.mono (u fv : Value) (n k H : Nat) : ∀ s v (w w' : World), Below w.heap.size w w' → CT u fv n k H s v w → CT u fv n k H s v w' := by
  intro s v w w' hb h
  unfold CT at *
  split at h
  all_goals first
    | exact h
    | trivial
    | (obtain ⟨rb, h1, h2, h3⟩ := h; exact ⟨rb, h1, h2, h3.later (hb.block _ h3.lt)⟩)
    | (obtain ⟨cs, rb, nb, h1, h2, h3, h4, h5, h6, h7⟩ := h; exact ⟨cs, rb, nb, h1, h2, h3, h4, h5.later (hb.block _ h5.lt), h6, h7.later (hb.block _ h7.lt)⟩)
    | (obtain ⟨b, rb, nb, h1, h2, h3, h4, h5, h6, h7⟩ := h; exact ⟨b, rb, nb, h1, h2, h3.later (hb.block _ h3.lt), h4, h5.later (hb.block _ h5.lt), h6, h7.later (hb.block _ h7.lt)⟩)

theorem built147 (fv : Value) (sb : Nat) (hf : fv = .func (.func 15) #[.pointer (some ⟨sb, 0, none⟩)] #[]) (rb nb : Nat) (x35 x38 : Addr) (n k : Nat) :
    ∃ cs, Yba.prog.built 147 [(0, fv), (1, .float .f64 0), (2, .float .f64 0), (3, .float .f64 0), (5, .slice (some ⟨rb, 0, none⟩) n n), (6, .float .f64 0), (7, .slice (some x35) n n), (8, .slice (some x38) n n), (9, .slice (some ⟨nb, 0, none⟩) k k)] = some cs ∧
      cs[6]? = some (.slice (some ⟨rb, 0, none⟩) n n) ∧ cs[10]? = some (.slice (some ⟨nb, 0, none⟩) k k) := by
  subst hf
  refine ⟨(Yba.prog.built 147 [(0, .func (.func 15) #[.pointer (some ⟨sb, 0, none⟩)] #[]), (1, .float .f64 0), (2, .float .f64 0), (3, .float .f64 0), (5, .slice (some ⟨rb, 0, none⟩) n n), (6, .float .f64 0), (7, .slice (some x35) n n), (8, .slice (some x38) n n), (9, .slice (some ⟨nb, 0, none⟩) k k)]).getD #[], ?_, by kernel_rfl, by kernel_rfl⟩
  have h : (Yba.prog.built 147 [(0, .func (.func 15) #[.pointer (some ⟨sb, 0, none⟩)] #[]), (1, .float .f64 0), (2, .float .f64 0), (3, .float .f64 0), (5, .slice (some ⟨rb, 0, none⟩) n n), (6, .float .f64 0), (7, .slice (some x35) n n), (8, .slice (some x38) n n), (9, .slice (some ⟨nb, 0, none⟩) k k)]).isSome = true := by kernel_rfl
  obtain ⟨cells, hc⟩ := Option.isSome_iff_exists.1 h
  rw [hc]
  rfl

theorem info191 : (Yba.prog.info? 191).map (fun i => (i.zero.map (·.cells.size), i.size, decide (i.bytes ≤ 128))) = some (some 10, 10, true) := by kernel_rfl
theorem make_ports (n : Nat) (hn : n ≤ 1048576) (w : World) : ∃ cs, (Instr.makeSlice 136 (.int .i64 (n : Int)) (.int .i64 (n : Int))).run Yba.prog w = .ok (.slice (some ⟨w.heap.size, 0, none⟩) n n) (w.alloc (.cells cs 191)) ∧ cs.size = n * 10 := by
  obtain ⟨i, hi, hzz⟩ := Option.map_eq_some_iff.1 info191
  simp only [Prod.mk.injEq, decide_eq_true_eq] at hzz
  obtain ⟨hz, hs, hb⟩ := hzz
  obtain ⟨z, hz, _⟩ := Option.map_eq_some_iff.1 hz
  have hmul : i.bytes * n ≤ 128 * 1048576 := Nat.mul_le_mul hb hn
  have hr := run_make (P := Yba.prog) w 136 191 i z Yba.underlying136 hi hz .i64 .i64 n n (by omega) (Int.le_refl _) (by omega) (by omega)
  simp only [Int.toNat_natCast, hs] at hr
  exact ⟨_, hr, size_madeCells _ _⟩

theorem call20 {n k : Nat} (hn : n ≤ 1048576) (hk : (n + 63) / 64 = k) {p : String} {af : Array Edge} {a : Act} {w1 : World} {K : Act → World → Prop} {Q : Exit → Act → World → Prop} (e : a.eval (.tmp 40) = .int .i64 (n : Int))
    (hK : K (a.put (some 41) (.slice (some ⟨w1.heap.size, 0, none⟩) k k)) (w1.alloc (.cells (madeCells #[.int .u64 0] k) 31))) :
    Oper.wp Yba.prog { dst := some 41, op := Op.call { callee := Callee.value (Operand.func 20), args := #[Operand.tmp 40], argTypes := #[3] }, type := 76, pos := p, after := af, guard := none } a w1 K Q := by
  unfold Oper.wp
  go_simp
  simp only [Act.eval, Array.getD_eq_getD_getElem?] at e
  rw [e]
  refine (nodeSet_any n k w1 hn hk).mono ?_
  rintro e w' ⟨rfl, rfl⟩
  exact hK

theorem tmps_eq (a : Act) (n : Nat) (h : a.tmps.size = n) : a.tmps = ((List.range n).map fun i => a.eval (.tmp i)).toArray := by
  apply Array.ext
  · simp [h]
  · intro i h1 h2
    simp [Act.eval, Array.getD_eq_getD_getElem?, Array.getElem?_eq_getElem h1]

theorem setRow_made (w : World) (k : Nat) : SetRow (w.alloc (.cells (madeCells #[.int .u64 0] k) 31)) w.heap.size k := by
  obtain ⟨c, h1, h2, h3⟩ := World.rowIs_made w (.int .u64 0) k 31
  exact ⟨c, h1, h2, fun j hj => ⟨0, h3 j hj⟩⟩
theorem box_cells {w w1 : World} {cs : Array Value} {t : TypeId} (hbel : Below (w.alloc (.cells cs t)).heap.size (w.alloc (.cells cs t)) w1) (j : Nat) (v : Value) (hv : cs[j]? = some v) : w1.cell? ⟨w.heap.size, j, none⟩ = some v := by
  rw [hbel.cell (p := ⟨w.heap.size, j, none⟩) (by simp), cell_of_row _ _ _ _ _ _ (heap_alloc_last w _)]
  exact hv
theorem box_size {w w1 : World} {o : Obj} (hbel : Below (w.alloc o).heap.size (w.alloc o) w1) : w.heap.size ≤ w1.heap.size := by
  have := hbel.size
  simp at this
  omega

/-- How it stands while the ports are laid. -/
structure Lay (w wr : World) (b n k rb nb : Nat) : Prop where
  box : Box wr b n k rb nb
  ports : Ports wr rb n
  set : SetRow wr nb k
  bel : Below w.heap.size w wr

theorem Lay.ne {w wr : World} {b n k rb nb : Nat} (h : Lay w wr b n k rb nb) : rb ≠ b ∧ rb ≠ nb ∧ nb ≠ b := by
  obtain ⟨c1, h1, _⟩ := h.box
  obtain ⟨c2, h2, _⟩ := h.ports
  obtain ⟨c3, h3, _⟩ := h.set
  refine ⟨fun e => ?_, fun e => ?_, fun e => ?_⟩
  · subst e; rw [h1] at h2; cases h2
  · subst e; rw [h3] at h2; cases h2
  · subst e; rw [h1] at h3; cases h3

theorem Ports.set {w : World} {b n : Nat} (h : Ports w b n) (j : Nat) (v : Value) : Ports (w.setCell ⟨b, j, none⟩ v) b n := by
  obtain ⟨cs, h1, h2⟩ := h
  refine ⟨cs.setIfInBounds j v, ?_, by simpa using h2⟩
  exact heap_setCell_same _ _ _ _ _ _ h1

theorem SetRow.set {w : World} {b k : Nat} (h : SetRow w b k) (j : Nat) (y : Int) : SetRow (w.setCell ⟨b, j, none⟩ (.int .u64 y)) b k := by
  obtain ⟨cs, h1, h2, h3⟩ := h
  refine ⟨cs.setIfInBounds j (.int .u64 y), heap_setCell_same _ _ _ _ _ _ h1, by simpa using h2, fun i hi => ?_⟩
  rw [Array.getElem?_setIfInBounds]
  split
  · split
    · exact ⟨y, rfl⟩
    · omega
  · exact h3 i hi
theorem Lay.drew {w wr : World} {b n k rb nb : Nat} (h : Lay w wr b n k rb nb) : Lay w wr.drew b n k rb nb := ⟨h.box, h.ports, h.set, h.bel.drew⟩
theorem Lay.setPort {w wr : World} {b n k rb nb : Nat} (h : Lay w wr b n k rb nb) (hrb : w.heap.size ≤ rb) (j : Nat) (v : Value) : Lay w (wr.setCell ⟨rb, j, none⟩ v) b n k rb nb := by
  obtain ⟨n1, n2, n3⟩ := h.ne
  exact ⟨h.box.later (Below.heap_setCell _ _ _ _ (by simpa using Ne.symm n1)), h.ports.set j v, h.set.later (Below.heap_setCell _ _ _ _ (by simpa using Ne.symm n2)), h.bel.setCell hrb _⟩
theorem Lay.setSet {w wr : World} {b n k rb nb : Nat} (h : Lay w wr b n k rb nb) (hnb : w.heap.size ≤ nb) (j : Nat) (y : Int) : Lay w (wr.setCell ⟨nb, j, none⟩ (.int .u64 y)) b n k rb nb := by
  obtain ⟨n1, n2, n3⟩ := h.ne
  exact ⟨h.box.later (Below.heap_setCell _ _ _ _ (by simpa using Ne.symm n3)), h.ports.later (Below.heap_setCell _ _ _ _ (by simpa using n2)), h.set.set j y, h.bel.setCell hnb _⟩

set_option maxRecDepth 10000 in
set_option maxHeartbeats 2000000 in
theorem newCong_any (ub db n k sb : Nat) (w : World) (hn : n ≤ 1048576) (hk : (n + 63) / 64 = k)
    (hub : ub < w.heap.size) (hdb : db < w.heap.size) (hu : ∀ i, i < n → ∃ x, w.cell? ⟨ub, i, none⟩ = some (.float .f64 x)) (hd : ∀ i, i < n → ∃ x, w.cell? ⟨db, i, none⟩ = some (.float .f64 x)) :
    Calls Yba.prog 14 #[.slice (some ⟨ub, 0, none⟩) n n, .slice (some ⟨db, 0, none⟩) n n, .func (.func 15) #[.pointer (some ⟨sb, 0, none⟩)] #[], .agg #[.int .i64 0, .int .i64 0, .int .i64 0, .float .f64 0]] w fun e w' => ∃ b cs, e = .returned (.pointer (some ⟨b, 0, none⟩)) ∧ w.heap.size ≤ b ∧ w'.heap[b]? = some (.cells cs 147 (0, 0)) ∧ Below w.heap.size w w' := by
  have m8 := mul8
  have c0 := conv0
  go_enter Yba.func14, Yba.ntmps14
  go_upto_region 2 with fail
  clear m8 c0
  refine wp_region_typed (by kernel_rfl) 76 rfl (by kernel_rfl) (CT (.slice (some ⟨ub, 0, none⟩) n n) (.func (.func 15) #[.pointer (some ⟨sb, 0, none⟩)] #[]) n k w.heap.size) (CT.mono _ _ _ _ _) ?good ?rest
  case good =>
    refine all_arr ?_
    repeat' first | exact all_nil | refine all_cons ?_ ?_
    all_goals (intro dd hdd; cases hdd; intro a w1 hbel hkeep hdep K hK)
    all_goals have hH := box_cells hbel
    all_goals have hs1 := box_size hbel
    · exact wp_move _ rfl (hK _ _ (Below.refl _ _) (hkeep 2 (by kernel_rfl)))
    · exact wp_move _ rfl (hK _ _ (Below.refl _ _) (hkeep 9 (by kernel_rfl)))
    · exact wp_move _ rfl (hK _ _ (Below.refl _ _) (hkeep 9 (by kernel_rfl)))
    · exact wp_pure (op_field (H := w.heap.size) (by omega) (hkeep 7 (by kernel_rfl))) (hK _ _ (Below.refl _ _) rfl)
    · exact wp_pure (op_load (hdep 19 (by kernel_rfl)) (hH 1 _ rfl) (load3 _ _)) (hK _ _ (Below.refl _ _) rfl)
    · exact wp_pure (op_conv (hdep 20 (by kernel_rfl))) (hK _ _ (Below.refl _ _) rfl)
    · exact wp_pure (op_mul (hdep 18 (by kernel_rfl)) (hdep 21 (by kernel_rfl))) (hK _ _ (Below.refl _ _) rfl)
    · exact wp_pure (op_field (H := w.heap.size) (by omega) (hkeep 7 (by kernel_rfl))) (hK _ _ (Below.refl _ _) rfl)
    · exact wp_pure (op_load (hdep 23 (by kernel_rfl)) (hH 3 _ rfl) (load60 _ _)) (hK _ _ (Below.refl _ _) rfl)
    · exact wp_move _ rfl (hK _ _ (Below.refl _ _) (hkeep 0 (by kernel_rfl)))
    · exact wp_len _ _ rfl _ Yba.underlying67 _ _ _ (hdep 25 (by kernel_rfl)) (hK _ _ (Below.refl _ _) rfl)
    · obtain ⟨cs, hr, hcs⟩ := make_ports n hn w1
      exact wp_make 136 _ rfl _ _ _ (hdep 26 (by kernel_rfl)) hr (hK _ _ ((Below.refl _ _).alloc (Nat.le_refl _) _) ⟨_, rfl, hs1, cs, heap_alloc_last _ _, hcs⟩)
    · exact wp_move _ rfl (hK _ _ (Below.refl _ _) (hkeep 9 (by kernel_rfl)))
    · exact wp_pure (op_field (H := w.heap.size) (by omega) (hkeep 7 (by kernel_rfl))) (hK _ _ (Below.refl _ _) rfl)
    · exact wp_pure (op_load (hdep 29 (by kernel_rfl)) (hH 2 _ rfl) (load3 _ _)) (hK _ _ (Below.refl _ _) rfl)
    · exact wp_pure (op_conv (hdep 30 (by kernel_rfl))) (hK _ _ (Below.refl _ _) rfl)
    · exact wp_pure (op_mul (hdep 28 (by kernel_rfl)) (hdep 31 (by kernel_rfl))) (hK _ _ (Below.refl _ _) rfl)
    · exact wp_move _ rfl (hK _ _ (Below.refl _ _) (hkeep 0 (by kernel_rfl)))
    · exact wp_len _ _ rfl _ Yba.underlying67 _ _ _ (hdep 33 (by kernel_rfl)) (hK _ _ (Below.refl _ _) rfl)
    · exact make_any 67 60 _ 8 n Yba.underlying67 info60 rfl hn (by omega) _ rfl (hdep 34 (by kernel_rfl)) (fun w' hb => hK _ _ hb ⟨_, rfl⟩)
    · exact wp_move _ rfl (hK _ _ (Below.refl _ _) (hkeep 0 (by kernel_rfl)))
    · exact wp_len _ _ rfl _ Yba.underlying67 _ _ _ (hdep 36 (by kernel_rfl)) (hK _ _ (Below.refl _ _) rfl)
    · exact make_any 67 60 _ 8 n Yba.underlying67 info60 rfl hn (by omega) _ rfl (hdep 37 (by kernel_rfl)) (fun w' hb => hK _ _ hb ⟨_, rfl⟩)
    · exact wp_move _ rfl (hK _ _ (Below.refl _ _) (hkeep 0 (by kernel_rfl)))
    · exact wp_len _ _ rfl _ Yba.underlying67 _ _ _ (hdep 39 (by kernel_rfl)) (hK _ _ (Below.refl _ _) rfl)
    · exact call20 hn hk (hdep 40 (by kernel_rfl)) (hK _ _ ((Below.refl _ _).alloc (Nat.le_refl _) _) ⟨_, rfl, hs1, setRow_made w1 k⟩)
    · obtain ⟨rb, e27, p1, p2⟩ : ∃ rb, a.eval (.tmp 27) = .slice (some ⟨rb, 0, none⟩) n n ∧ w.heap.size ≤ rb ∧ Ports w1 rb n := hdep 27 (by kernel_rfl)
      obtain ⟨x35, e35⟩ : ∃ x, a.eval (.tmp 35) = .slice (some x) n n := hdep 35 (by kernel_rfl)
      obtain ⟨x38, e38⟩ : ∃ x, a.eval (.tmp 38) = .slice (some x) n n := hdep 38 (by kernel_rfl)
      obtain ⟨nb, e41, p3, p4⟩ : ∃ nb, a.eval (.tmp 41) = .slice (some ⟨nb, 0, none⟩) k k ∧ w.heap.size ≤ nb ∧ SetRow w1 nb k := hdep 41 (by kernel_rfl)
      have e16 : a.eval (.tmp 16) = .func (.func 15) #[.pointer (some ⟨sb, 0, none⟩)] #[] := hdep 16 (by kernel_rfl)
      have e17 : a.eval (.tmp 17) = .float .f64 0 := hdep 17 (by kernel_rfl)
      have e22 : a.eval (.tmp 22) = .float .f64 0 := hdep 22 (by kernel_rfl)
      have e24 : a.eval (.tmp 24) = .float .f64 0 := hdep 24 (by kernel_rfl)
      have e32 : a.eval (.tmp 32) = .float .f64 0 := hdep 32 (by kernel_rfl)
      obtain ⟨cs, hcs, c6, c10⟩ := built147 _ sb rfl rb nb x35 x38 n k
      exact wp_build 147 _ rfl #[(0, .func (.func 15) #[.pointer (some ⟨sb, 0, none⟩)] #[]), (1, .float .f64 0), (2, .float .f64 0), (3, .float .f64 0), (5, .slice (some ⟨rb, 0, none⟩) n n), (6, .float .f64 0), (7, .slice (some x35) n n), (8, .slice (some x38) n n), (9, .slice (some ⟨nb, 0, none⟩) k k)] (by simp [e16, e17, e22, e24, e27, e32, e35, e38, e41]) _ (run_build _ _ _ cs hcs) (hK _ _ (Below.refl _ _) ⟨_, _, _, rfl, c6, c10, p1, p2, p3, p4⟩)
    · obtain ⟨cs, rb, nb, e42, c6, c10, p1, p2, p3, p4⟩ := hdep 42 (by kernel_rfl)
      have b1 : Below w1.heap.size w1 (w1.alloc (.cells cs 147)) := (Below.refl _ _).alloc (Nat.le_refl _) _
      exact wp_box _ _ rfl cs e42 (hK _ _ b1 ⟨_, _, _, rfl, hs1, ⟨cs, heap_alloc_last _ _, c6, c10⟩, p1, p2.later (b1.block _ p2.lt), p3, p4.later (b1.block _ p4.lt)⟩)
    · exact wp_assign _ rfl (hK _ _ (Below.refl _ _) (hdep 43 (by kernel_rfl)))
  case rest =>
    intro a w1 hsz hdf hbel hkeep ht
    obtain ⟨b, rb, nb, e10, hb, hbox, hrb, hports, hnb, hset⟩ : ∃ b rb nb, a.eval (.tmp 10) = .pointer (some ⟨b, 0, none⟩) ∧ w.heap.size ≤ b ∧ Box w1 b n k rb nb ∧ w.heap.size ≤ rb ∧ Ports w1 rb n ∧ w.heap.size ≤ nb ∧ SetRow w1 nb k := ht 28 _ 10 rfl rfl
    have e0 := hkeep 0 (by kernel_rfl)
    have e1 := hkeep 1 (by kernel_rfl)
    have htm := tmps_eq a 76 hsz
    clear hkeep ht hsz
    obtain ⟨x, hx⟩ : ∃ x : Nat → Value, (fun i => a.eval (.tmp i)) = x := ⟨_, rfl⟩
    rw [hx] at htm
    have x0 := (congrFun hx 0).symm.trans e0
    have x1 := (congrFun hx 1).symm.trans e1
    have x10 := (congrFun hx 10).symm.trans e10
    clear hx e0 e1 e10
    obtain ⟨tm, df⟩ := a
    simp only at htm hdf
    subst hdf
    subst htm
    replace x0 : x 0 = .slice (some ⟨ub, 0, none⟩) n n := x0
    replace x1 : x 1 = .slice (some ⟨db, 0, none⟩) n n := x1
    simp only [List.range, List.range.loop, List.map_cons, List.map_nil, x0, x1, x10]
    obtain ⟨bc, hb0, hb6, hb10⟩ := hbox
    have q6 : w1.cell? ⟨b, 6, none⟩ = some (.slice (some ⟨rb, 0, none⟩) n n) := by rw [cell_of_row _ _ _ _ _ _ hb0]; exact hb6
    clear x0 x1 x10
    have hw : Below w.heap.size w w1 := ((Below.refl _ _).alloc (Nat.le_refl _) _).trans (hbel.mono (by simp))
    have hL : Lay w w1 b n k rb nb := ⟨⟨bc, hb0, hb6, hb10⟩, hports, hset, hw⟩
    clear hbel
    go_wp2
    go_loopw [49] (fun v wr => ∃ i : Nat, i ≤ n ∧ v = .int .i64 i ∧ Lay w wr b n k rb nb) (fun v _ => n - (intOf v).toNat)
    case atStart => exact ⟨0, Nat.zero_le _, rfl, hL⟩
    case round =>
      rename World => w2
      obtain ⟨i, hi, rfl, hS⟩ := hrel
      clear hb0 hb6 hb10 q6 hports hset hw hL
      by_cases hlt : i < n
      · obtain ⟨n1, n2, n3⟩ := hS.ne
        obtain ⟨bc, hb0, hb6, hb10⟩ := hS.box
        have q6 : w2.cell? ⟨b, 6, none⟩ = some (.slice (some ⟨rb, 0, none⟩) n n) := by rw [cell_of_row _ _ _ _ _ _ hb0]; exact hb6
        have q10 : w2.cell? ⟨b, 10, none⟩ = some (.slice (some ⟨nb, 0, none⟩) k k) := by rw [cell_of_row _ _ _ _ _ _ hb0]; exact hb10
        obtain ⟨xu, hxu⟩ := hu i hlt
        obtain ⟨xd, hxd⟩ := hd i hlt
        have qu := (hS.bel.cell (p := ⟨ub, i, none⟩) hub).trans hxu
        have qd := (hS.bel.cell (p := ⟨db, i, none⟩) hdb).trans hxd
        obtain ⟨pc, hp1, hp2⟩ := hS.ports
        have hpj : ∀ j, j < 10 → ∃ v, w2.cell? ⟨rb, i * 10 + j, none⟩ = some v := fun j hj => ⟨pc[i * 10 + j]'(by omega), by rw [cell_of_row _ _ _ _ _ _ hp1]; exact Array.getElem?_eq_getElem _⟩
        have hfj : ∀ j, w2.frozen? ⟨rb, j, none⟩ = false := fun j => frozen_of_row _ _ _ _ _ hp1
        obtain ⟨v0, p0⟩ := hpj 0 (by omega)
        obtain ⟨v1, p1⟩ := hpj 1 (by omega)
        obtain ⟨v2, p2⟩ := hpj 2 (by omega)
        obtain ⟨v3, p3⟩ := hpj 3 (by omega)
        obtain ⟨v4, p4⟩ := hpj 4 (by omega)
        obtain ⟨v5, p5⟩ := hpj 5 (by omega)
        obtain ⟨v6, p6⟩ := hpj 6 (by omega)
        obtain ⟨v7, p7⟩ := hpj 7 (by omega)
        obtain ⟨v8, p8⟩ := hpj 8 (by omega)
        obtain ⟨v9, p9⟩ := hpj 9 (by omega)
        simp only [Nat.add_zero] at p0
        obtain ⟨sc, hs0, hsz, hsy⟩ := hS.set
        obtain ⟨ys, hys⟩ := hsy (i / 64) (by omega)
        have hs1 : w2.cell? ⟨nb, i / 64, none⟩ = some (.int .u64 ys) := by rw [cell_of_row _ _ _ _ _ _ hs0]; exact hys
        have hs2 : w2.frozen? ⟨nb, i / 64, none⟩ = false := frozen_of_row _ _ _ _ _ hs0
        clear hs0 hsz hsy hys
        have b1 : (0 : Int) ≤ (i : Int) := by omega
        have b2 : (i : Int) < (n : Int) := by omega
        have HS : Hid (Lay w w2 b n k rb nb) := hS
        clear hS hb0 hb6 hb10 hp1 hp2 hpj hxu hxd
        go_upto_region 6 with fail
        go_region
        clear p0 p1 p2 p3 p4 p5 p6 p7 p8 p9 hfj qu qd
        have n4 : b ≠ rb := Ne.symm n1
        go_wp2_with (first
          | (go_at_call 21; refine (put_node nb k i (i / 64) (i % 64) ys _ (by omega) rfl rfl (by omega) ?_ ?_).mono ?_; (simp [World.cell?_setCell_far, n2, hs1]); (simp [hs2]); rintro e w4 ⟨rfl, y', rfl⟩)
          | go_in)
        go_roundw
        case rel => exact ⟨i + 1, by omega, by go_num, by with_reducible (repeat (first | refine Lay.drew ?_ | refine Lay.setPort ?_ hrb _ _ | refine Lay.setSet ?_ hnb _ _ | exact HS.out))⟩
        case measure => simp [intOf]; omega
      · have hie : i = n := by omega
        subst hie
        obtain ⟨bc, hb0, hb6, hb10⟩ := hS.box
        have HS : Hid (Lay w w2 b i k rb nb) := hS
        clear hS hb6 hb10 hu hd
        go_wp2
        go_ret
        exact ⟨b, bc, rfl, hb, hb0, HS.out.bel⟩
end Go.Proofs.Ybulkdxsc
