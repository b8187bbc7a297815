/- LawS6216BWhole: the law's own function. -/
import Derived.Test.YbulkdxscBLinks
import Derived.LaidEqlPtr
import Derived.Lib.Builder
namespace Go.Proofs.Ybulkdxsc
set_option linter.unusedVariables false
open Go.RowKit
attribute [local go_sem] run_store_floatB

theorem wpList_buildN {P : Program} (w : World) {ops : Array Oper} {rest : List Oper} {o : Oper} {a : Act} {Q : Exit → Act → World → Prop} (hg : o.guard = none) (t : TypeId) (ps : Array (Nat × Operand)) (ho : o.op = .build t ps)
    (us : Array (Nat × Value)) (hx : (ps.map fun (i, x) => (i, a.eval x)) = us) (v : Value) (hrun : (Instr.build t us).run P w = .ok v w) (hK : wpList P ops Q rest (a.put o.dst v) w) : wpList P ops Q (o :: rest) a w := by
  refine wpList_plain hg fun K' hK' => ?_
  unfold Oper.wp execOp
  simp only [ho, Sem.run_bind, hx, hrun, Result.andThen_ok]
  exact hK' _ _ hK

theorem simFacts2 : ∃ C : Nat → Nat → Array Value, ∀ sc pb, (∀ w, (Instr.build 84 #[(0, .pointer (some ⟨sc, 0, none⟩)), (27, .pointer (some ⟨pb, 0, none⟩))]).run Yba.prog w = .ok (.agg (C sc pb)) w) ∧ (C sc pb)[0]? = some (.pointer (some ⟨sc, 0, none⟩)) ∧ (C sc pb)[2189]? = some (.pointer (some ⟨pb, 0, none⟩)) := by
  refine ⟨fun sc pb => (Yba.prog.built 84 [(0, .pointer (some ⟨sc, 0, none⟩)), (27, .pointer (some ⟨pb, 0, none⟩))]).getD #[], fun sc pb => ⟨fun w => ?_, by kernel_rfl, by kernel_rfl⟩⟩
  have h : (Yba.prog.built 84 [(0, .pointer (some ⟨sc, 0, none⟩)), (27, .pointer (some ⟨pb, 0, none⟩))]).isSome = true := by kernel_rfl
  obtain ⟨cells, hc⟩ := Option.isSome_iff_exists.1 h
  show _ = Result.ok (Value.agg ((Yba.prog.built 84 [(0, .pointer (some ⟨sc, 0, none⟩)), (27, .pointer (some ⟨pb, 0, none⟩))]).getD #[])) w
  rw [hc]
  exact run_build w 84 _ cells hc

theorem zero147 : ∃ Z : Array Value, ∀ w, (Instr.build 147 #[]).run Yba.prog w = .ok (.agg Z) w := by
  have h : (Yba.prog.built 147 []).isSome = true := by kernel_rfl
  obtain ⟨cells, hc⟩ := Option.isSome_iff_exists.1 h
  exact ⟨cells, fun w => run_build w 147 _ cells hc⟩
theorem run_add_oneF (v : Int) (w : World) : (binOp .add 60 (.float .f64 4607182418800017408) (.float .f64 (floatOfInt .f64 v))).run Yba.prog w = .ok (.float .f64 (oneOf v)) w := run_add_one v w

def fl (U : Nat → Int) (i j : Nat) : Value := if j < i then .float .f64 (oneOf (U j)) else .float .f64 0
structure St (w wr : World) (U D : Nat → Int) (n i : Nat) : Prop where
  u : wr.rowIs w.heap.size 60 n (fl U i)
  d : wr.rowIs (w.heap.size + 1) 60 n (fl D i)
  sz : wr.heap.size = w.heap.size + 2
  bel : Below w.heap.size w wr

theorem fl_set (U : Nat → Int) (i j : Nat) : (if j = i then Value.float .f64 (oneOf (U i)) else fl U i j) = fl U (i + 1) j := by
  unfold fl
  by_cases e : j = i
  · subst e; simp
  · by_cases h : j < i
    · have : j < i + 1 := by omega
      simp [e, h, this]
    · have : ¬ j < i + 1 := by omega
      simp [e, h, this]
theorem St.start (w : World) (U D : Nat → Int) (n : Nat) : St w ((w.alloc (.cells (madeCells #[.float .f64 0] n) 60)).alloc (.cells (madeCells #[.float .f64 0] n) 60)) U D n 0 := by
  have h1 := World.rowIs_made w (.float .f64 0) n 60
  have h2 := World.rowIs_made (w.alloc (.cells (madeCells #[.float .f64 0] n) 60)) (.float .f64 0) n 60
  have hs : (w.alloc (.cells (madeCells #[.float .f64 0] n) 60)).heap.size = w.heap.size + 1 := by simp
  rw [hs] at h2
  exact ⟨(h1.alloc _).congr (fun j _ => by simp [fl]), h2.congr (fun j _ => by simp [fl]), by simp, bel_alloc (bel_alloc (Below.refl _ _) _) _⟩
theorem St.step {w wr : World} {U D : Nat → Int} {n i : Nat} (h : St w wr U D n i) : St w ((wr.setCell ⟨w.heap.size, i, none⟩ (.float .f64 (oneOf (U i)))).setCell ⟨w.heap.size + 1, i, none⟩ (.float .f64 (oneOf (D i)))) U D n (i + 1) := by
  refine ⟨((h.u.set i _).setOther (by simp) _).congr (fun j _ => fl_set U i j), ((h.d.setOther (by simp) _).set i _).congr (fun j _ => fl_set D i j), by simpa using h.sz, (h.bel.setCell (Nat.le_refl _) _).setCell (Nat.le_succ _) _⟩

theorem drewNB (w : World) (a b : Nat) : (w.drewN a).drewN b = w.drewN (a + b) := by simp [World.drewN, Nat.add_assoc]
theorem below_drewNB {B : Nat} {w w1 : World} (h : Below B w w1) (q : Nat) : Below B w (w1.drewN q) := ⟨h.os, h.tape, h.output, h.size, h.block⟩
theorem info25x : (Yba.prog.info? (Yba.prog.pointee 26)).isSome = true := by kernel_rfl
theorem info111x : (Yba.prog.info? (Yba.prog.pointee 111)).isSome = true := by kernel_rfl
theorem info70x : (Yba.prog.info? (Yba.prog.pointee 70)).isSome = true := by kernel_rfl
theorem neq26 (x : Addr) (w : World) : (binOp .neq 26 (.pointer (some x)) (.pointer (some x))).run Yba.prog w = .ok (.bool false) w := by
  obtain ⟨j, hj⟩ := Option.isSome_iff_exists.1 info25x
  exact Lib.run_neq_ptr_same w x (by kernel_rfl) hj
theorem neq111 (x : Addr) (w : World) : (binOp .neq 111 (.pointer (some x)) (.pointer (some x))).run Yba.prog w = .ok (.bool false) w := by
  obtain ⟨j, hj⟩ := Option.isSome_iff_exists.1 info111x
  exact Lib.run_neq_ptr_same w x (by kernel_rfl) hj
theorem eql70 (x : Addr) (w : World) : (binOp .eql 70 (.pointer (some x)) (.pointer (some x))).run Yba.prog w = .ok (.bool true) w := by
  obtain ⟨j, hj⟩ := Option.isSome_iff_exists.1 info70x
  exact run_eql_ptr_same w x (by kernel_rfl) hj

theorem ta149 (x : Addr) (w : World) : (Instr.typeAssert (.iface 149 (.pointer (some x))) 69 149 true).run Yba.prog w = .ok (.tuple #[.pointer (some x), .bool true]) w := by kernel_rfl
theorem ta70 (x : Addr) (w : World) : (Instr.typeAssert (.iface 70 (.pointer (some x))) 69 70 true).run Yba.prog w = .ok (.tuple #[.pointer (some x), .bool true]) w := by kernel_rfl

theorem order_one (v : Int) : FloatKind.f64.format.order (oneOf v) (oneOf v) = some .eq := order_self _ (oneOf_eq v).2

structure Pre (w W : World) (U D : Nat → Int) (n scb pb sb : Nat) (cgv : Option Addr) (C Z : Array Value) : Prop where
  u : ∀ i, i < n → W.cell? ⟨w.heap.size, i, none⟩ = some (.float .f64 (oneOf (U i)))
  d : ∀ i, i < n → W.cell? ⟨w.heap.size + 1, i, none⟩ = some (.float .f64 (oneOf (D i)))
  sim : W.heap[sb]? = some (.cells C 84 (0, 0))
  c15 : W.cell? ⟨scb, 15, none⟩ = some (.pointer cgv)
  pri : W.heap[pb]? = some (.cells Z 147 (0, 0))
  bel : Below w.heap.size w W
  o1 : w.heap.size + 1 < sb
  o2 : scb < sb
  o3 : pb < sb
  o4 : w.heap.size < scb
  o5 : w.heap.size < pb

structure Fin (w w' : World) (U D : Nat → Int) (n scb sb : Nat) (cgv : Option Addr) (lv cv : Value) : Prop where
  u : ∀ i, i < n → w'.cell? ⟨w.heap.size, i, none⟩ = some (.float .f64 (oneOf (U i)))
  d : ∀ i, i < n → w'.cell? ⟨w.heap.size + 1, i, none⟩ = some (.float .f64 (oneOf (D i)))
  s0 : w'.cell? ⟨sb, 0, none⟩ = some (.pointer (some ⟨scb, 0, none⟩))
  c15 : w'.cell? ⟨scb, 15, none⟩ = some (.pointer cgv)
  l : w'.cell? ⟨sb, 2188, none⟩ = some lv
  c : w'.cell? ⟨sb, 2189, none⟩ = some cv
  bel : Below w.heap.size w w'

theorem sz_of_get {C : Array Value} {j : Nat} {v : Value} (h : C[j]? = some v) : j < C.size := (Array.getElem?_eq_some_iff.1 h).1

theorem Pre.no {w W w3 : World} {U D : Nat → Int} {n scb pb sb : Nat} {cgv : Option Addr} {C Z : Array Value} {lv : Value} (h : Pre w W U D n scb pb sb cgv C Z) (h0 : C[0]? = some (.pointer (some ⟨scb, 0, none⟩))) (h9 : C[2189]? = some (.pointer (some ⟨pb, 0, none⟩)))
    (hb : Below W.heap.size W w3) : Fin w (w3.setCell ⟨sb, 2188, none⟩ lv) U D n scb sb cgv lv (.pointer (some ⟨pb, 0, none⟩)) := by
  have hsb := lt_of h.sim
  have o1 := h.o1
  have o2 := h.o2
  have sim3 : w3.heap[sb]? = some (.cells C 84 (0, 0)) := (hb.block _ hsb).trans h.sim
  have far : ∀ (x o : Nat) v, x < sb → W.cell? ⟨x, o, none⟩ = some v → (w3.setCell ⟨sb, 2188, none⟩ lv).cell? ⟨x, o, none⟩ = some v := fun x o v hx hc => by
    rw [World.cell?_setCell_far _ _ _ _ (by simp; omega), hb.cell (p := ⟨x, o, none⟩) (by simp; omega)]; exact hc
  have in3 : ∀ j v, C[j]? = some v → j ≠ 2188 → (w3.setCell ⟨sb, 2188, none⟩ lv).cell? ⟨sb, j, none⟩ = some v := fun j v hj hne => by
    rw [World.cell?_setCell_other _ _ _ _ (by intro e; cases e; exact hne rfl), cell_of_row _ _ _ _ _ _ sim3]; exact hj
  obtain ⟨v, hv⟩ : ∃ v, w3.cell? ⟨sb, 2188, none⟩ = some v := ⟨C[2188]'(by have := sz_of_get h9; omega), by rw [cell_of_row _ _ _ _ _ _ sim3]; exact Array.getElem?_eq_getElem _⟩
  exact ⟨fun i hi => far _ _ _ (by omega) (h.u i hi), fun i hi => far _ _ _ (by omega) (h.d i hi), in3 0 _ h0 (by omega), far _ _ _ o2 h.c15, World.cell?_setCell_same _ _ _ hv, in3 2189 _ h9 (by omega), ((h.bel.trans (hb.mono h.bel.size))).setCell (by simp; omega) _⟩

theorem Pre.build {w w1 : World} {U D : Nat → Int} {n : Nat} {C Z sc : Array Value} {o : Obj} {cgv : Option Addr} (hS : St w w1 U D n n) (h15 : sc[15]? = some (.pointer cgv)) :
    Pre w ((((w1.alloc o).alloc (.cells sc 131)).alloc (.cells Z 147)).alloc (.cells C 84)) U D n (w.heap.size + 2 + 1) (w.heap.size + 2 + 1 + 1) (w.heap.size + 2 + 1 + 1 + 1) cgv C Z := by
  have hz := hS.sz
  obtain ⟨w2, h2⟩ : ∃ w2, w2 = w1.alloc o := ⟨_, rfl⟩
  have z2 : w2.heap.size = w.heap.size + 2 + 1 := by rw [h2]; simp; omega
  have b2 : Below w1.heap.size w1 w2 := by rw [h2]; exact bel_alloc (Below.refl _ _) _
  rw [← h2]
  obtain ⟨w3, h3⟩ : ∃ w3, w3 = w2.alloc (.cells sc 131) := ⟨_, rfl⟩
  have z3 : w3.heap.size = w.heap.size + 2 + 1 + 1 := by rw [h3]; simp; omega
  have b3 : Below w2.heap.size w2 w3 := by rw [h3]; exact bel_alloc (Below.refl _ _) _
  have l3 : w3.heap[w.heap.size + 2 + 1]? = some (.cells sc 131 (0, 0)) := by rw [h3, ← z2]; exact heap_alloc_last _ _
  rw [← h3]
  obtain ⟨w4, h4⟩ : ∃ w4, w4 = w3.alloc (.cells Z 147) := ⟨_, rfl⟩
  have z4 : w4.heap.size = w.heap.size + 2 + 1 + 1 + 1 := by rw [h4]; simp; omega
  have b4 : Below w3.heap.size w3 w4 := by rw [h4]; exact bel_alloc (Below.refl _ _) _
  have l4 : w4.heap[w.heap.size + 2 + 1 + 1]? = some (.cells Z 147 (0, 0)) := by rw [h4, ← z3]; exact heap_alloc_last _ _
  rw [← h4]
  have b5 : Below w4.heap.size w4 (w4.alloc (.cells C 84)) := bel_alloc (Below.refl _ _) _
  have l5 : (w4.alloc (.cells C 84)).heap[w.heap.size + 2 + 1 + 1 + 1]? = some (.cells C 84 (0, 0)) := by rw [← z4]; exact heap_alloc_last _ _
  have all : Below w1.heap.size w1 (w4.alloc (.cells C 84)) := b2.trans ((b3.mono (by omega)).trans ((b4.mono (by omega)).trans (b5.mono (by omega))))
  refine ⟨fun i hi => ?_, fun i hi => ?_, l5, ?_, (b5.block _ (by omega)).trans l4, hS.bel.trans (all.mono (by omega)), by omega, by omega, by omega, by omega, by omega⟩
  · rw [all.cell (p := ⟨w.heap.size, i, none⟩) (by simp; omega), hS.u.cell hi]; simp [fl, hi]
  · rw [all.cell (p := ⟨w.heap.size + 1, i, none⟩) (by simp; omega), hS.d.cell hi]; simp [fl, hi]
  · rw [cell_of_row _ _ _ _ _ _ ((b5.block _ (by omega)).trans ((b4.block _ (by omega)).trans l3))]; exact h15

theorem links_no_at {w w1 : World} {U D : Nat → Int} {n : Nat} {C Z sc : Array Value} {o : Obj} (hS : St w w1 U D n n) (hn : n ≤ 1048576) (h15 : sc[15]? = some (.pointer none)) (hC0 : C[0]? = some (.pointer (some ⟨w.heap.size + 2 + 1, 0, none⟩))) (hC9 : C[2189]? = some (.pointer (some ⟨w.heap.size + 2 + 1 + 1, 0, none⟩))) :
    Calls Yba.prog 8 #[.pointer (some ⟨w.heap.size + 2 + 1 + 1 + 1, 0, none⟩), .slice (some ⟨w.heap.size, 0, none⟩) n n, .slice (some ⟨w.heap.size + 1, 0, none⟩) n n] ((((w1.alloc o).alloc (.cells sc 131)).alloc (.cells Z 147)).alloc (.cells C 84))
      fun e w5 => e = .returned (.tuple #[]) ∧ ∃ b, Fin w w5 U D n (w.heap.size + 2 + 1) (w.heap.size + 2 + 1 + 1 + 1) none (.iface 149 (.pointer (some ⟨b, 0, none⟩))) (.pointer (some ⟨w.heap.size + 2 + 1 + 1, 0, none⟩)) := by
  have HP := Pre.build (C := C) (Z := Z) (o := o) (cgv := none) hS h15
  refine (links_no _ _ _ _ n _ _ hn HP.sim (sz_of_get hC9) hC0 HP.c15).mono ?_
  rintro e w5 ⟨rfl, b, w6, hb6, rfl⟩
  exact ⟨rfl, b, HP.no hC0 hC9 hb6⟩

set_option maxRecDepth 10000 in
set_option maxHeartbeats 4000000 in
theorem law_no (n l0 l1 c0 c1 : Nat) (a0 a1 : Option Addr) (U D : Nat → Int) (w : World) (hl0 : l0 ≤ 1048576) (hl1 : l1 ≤ 1048576) (hmin0 : n = min l0 l1)
    (hU : ∀ j, j < n → ∃ ab ao, a0 = some ⟨ab, ao, none⟩ ∧ ab < w.heap.size ∧ w.cell? ⟨ab, ao + j, none⟩ = some (.int .u16 (U j)))
    (hD : ∀ j, j < n → ∃ ab ao, a1 = some ⟨ab, ao, none⟩ ∧ ab < w.heap.size ∧ w.cell? ⟨ab, ao + j, none⟩ = some (.int .u16 (D j))) :
    Calls Yba.prog 4 #[.slice a0 l0 c0, .slice a1 l1 c1, .bool false] w fun e w' => e = .returned (.bool true) ∧ Below w.heap.size w w' := by
  obtain ⟨C, hC⟩ := simFacts2
  have hn : n ≤ 1048576 := by omega
  have HM : Hid (n = min l0 l1) := hmin0
  clear hmin0
  have mk := run_make_row' (P := Yba.prog) 67 60 (.float .f64 0) 8 Yba.underlying67 info60 rfl .i64 .i64 n (by omega) (by omega)
  have add1 := run_add_oneF
  obtain ⟨Z, hZ⟩ := zero147
  go_enter Yba.func4, Yba.ntmps4
  go_upto_if 34 with fail
  go_cut [7] (fun v wx => v = .int .i64 n ∧ w = wx)
  case first =>
    by_cases hlt : l1 < l0
    · have hm : n = l1 := by have := HM.out; omega
      go_wp2
      go_meet
      case rel => exact ⟨by rw [hm], rfl⟩
    · have hm : n = l0 := by have := HM.out; omega
      go_wp2
      go_meet
      case rel => exact ⟨by rw [hm], rfl⟩
  case rest =>
    obtain ⟨rfl, rfl⟩ := hcut
    go_wp2
    clear mk
    go_loopw [10] (fun v wr => ∃ i : Nat, i ≤ n ∧ v = .int .i64 i ∧ St w wr U D n i) (fun v _ => n - (intOf v).toNat)
    case atStart => exact ⟨0, Nat.zero_le _, rfl, St.start w U D n⟩
    case round =>
      rename World => w1
      obtain ⟨i, hi, rfl, hS⟩ := hrel
      by_cases hlt : i < n
      · obtain ⟨ab, ao, rfl, hab, hac⟩ := hU i hlt
        obtain ⟨db, dof, rfl, hdb, hdc⟩ := hD i hlt
        have ea := (hS.bel.cell (p := ⟨ab, ao + i, none⟩) hab).trans hac
        have ed := (hS.bel.cell (p := ⟨db, dof + i, none⟩) hdb).trans hdc
        have r1 := hS.u.cell hlt
        have r2 := hS.u.frozen i
        have r3 := hS.d.cell hlt
        have r4 := hS.d.frozen i
        have n1 : db ≠ w.heap.size := by omega
        have n2 : (i : Int) < (l0 : Int) := by have := HM.out; omega
        have n3 : (i : Int) < (l1 : Int) := by have := HM.out; omega
        have HS : Hid (St w w1 U D n i) := hS
        clear hS hac hdc hC
        go_wp2
        go_roundw
        case rel => exact ⟨i + 1, by omega, by go_num, HS.out.step⟩
        case measure => simp [intOf]; omega
      · have hie : i = n := by omega
        subst hie
        have HS : Hid (St w w1 U D i i) := hS
        have hz := hS.sz
        clear hS add1
        go_wp2_with (first
          | (refine wpList_buildN _ rfl 147 _ rfl #[] (by simp) _ (hZ _) ?_)
          | (refine wpList_buildN _ rfl 84 _ rfl #[(0, .pointer (some ⟨_, 0, none⟩)), (27, .pointer (some ⟨_, 0, none⟩))] (by simp [Act.eval]; exact ⟨rfl, rfl⟩) _ ((hC _ _).1 _) ?_)
          | (go_at_call 8; go_must (refine (links_no_at HS.out hn (by rfl) (hC (w.heap.size + 2 + 1) (w.heap.size + 2 + 1 + 1)).2.1 (hC (w.heap.size + 2 + 1) (w.heap.size + 2 + 1 + 1)).2.2).mono ?_; rintro e w5 ⟨rfl, b, hF⟩; have HF : Hid (Fin w w5 U D i (w.heap.size + 2 + 1) (w.heap.size + 2 + 1 + 1 + 1) none (.iface 149 (.pointer (some ⟨b, 0, none⟩))) (.pointer (some ⟨w.heap.size + 2 + 1 + 1, 0, none⟩))) := hF; clear hF))
          | go_in)
        have add1 := run_add_oneF
        have neq1 := order_one
        go_loopw [16] (fun v wr => ∃ t nq : Nat, t ≤ i ∧ v = .int .i64 t ∧ wr = w5.drewN nq) (fun v _ => i - (intOf v).toNat)
        case atStart => exact ⟨0, 0, Nat.zero_le _, rfl, rfl⟩
        case round =>
          obtain ⟨t, nq0, ht, rfl, rfl⟩ := hrel
          by_cases htl : t < i
          · obtain ⟨ab, ao, rfl, hab, hac⟩ := hU t htl
            obtain ⟨db, dof, rfl, hdb, hdc⟩ := hD t htl
            have ea := (HF.out.bel.cell (p := ⟨ab, ao + t, none⟩) hab).trans hac
            have ed := (HF.out.bel.cell (p := ⟨db, dof + t, none⟩) hdb).trans hdc
            have x1 := HF.out.u t htl
            have x2 := HF.out.d t htl
            have n1 : (t : Int) < (i : Int) := by omega
            have n2 : (t : Int) < (l0 : Int) := by have := HM.out; omega
            have n3 : (t : Int) < (l1 : Int) := by have := HM.out; omega
            have n4 : (0 : Int) ≤ (t : Int) := by omega
            clear hac hdc hC
            go_wp2
            go_quiet (fail)
            go_wp2
            go_roundw
            case rel => exact ⟨t + 1, _, by omega, by go_num, by first | rfl | exact drewNB _ _ _⟩
            case measure => simp [intOf]; omega
          · have x1 := HF.out.s0
            have x2 := HF.out.c15
            have x3 := HF.out.l
            have x4 := HF.out.c
            have y1 := neq26
            have y2 := fun w p => run_neq_pointer_nil (P := Yba.prog) w 111 p (by kernel_rfl)
            have y3 := fun w p => run_neq_pointer_nil (P := Yba.prog) w 149 p (by kernel_rfl)
            have y4 := eql70
            have y5 := ta149
            clear hC add1 neq1
            go_wp2
            go_ret
            exact ⟨rfl, below_drewNB HF.out.bel _⟩
end Go.Proofs.Ybulkdxsc
