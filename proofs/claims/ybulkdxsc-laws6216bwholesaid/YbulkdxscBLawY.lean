/- LawS6216BWhole: the law's own function, with congestion. -/
import Derived.Test.YbulkdxscBLaw
namespace Go.Proofs.Ybulkdxsc
set_option linter.unusedVariables false
open Go.RowKit
attribute [local go_sem] run_store_floatB

theorem neq70_other {a b : Nat} {ca cb : Array Value} (hne : a ≠ b) (w : World) (ha : w.heap[a]? = some (.cells ca 147 (0, 0))) (hb : w.heap[b]? = some (.cells cb 147 (0, 0))) : (binOp .neq 70 (.pointer (some ⟨a, 0, none⟩)) (.pointer (some ⟨b, 0, none⟩))).run Yba.prog w = .ok (.bool true) w := by
  obtain ⟨j, hj, hsz⟩ := Option.map_eq_some_iff.1 (show (Yba.prog.info? (Yba.prog.pointee 70)).map (fun i => decide (i.size ≠ 0)) = some true by kernel_rfl)
  have hp : Yba.prog.underlying 70 = some (.pointer (Yba.prog.pointee 70)) := by kernel_rfl
  have hs : j.size ≠ 0 := by simpa using hsz
  have hab : (⟨a, 0, none⟩ : Addr) ≠ ⟨b, 0, none⟩ := by intro e; cases e; exact hne rfl
  have h : ∀ d : Nat, (Op.equalIn (d + 1) 70 (.pointer (some ⟨a, 0, none⟩)) (.pointer (some ⟨b, 0, none⟩))).run Yba.prog w = .ok false w := fun d => by
    simp [Op.equalIn, run_underlying hp, sizeOf, typeInfo, hj, hs, run_sameAddr_other w hab ha hb]
  simp only [binOp]
  simp [Op.equal, Op.maxDepth, h 9999]

theorem Pre.yes {w W w3 : World} {U D : Nat → Int} {n scb pb sb b : Nat} {cgv : Option Addr} {C Z : Array Value} {lv : Value} (h : Pre w W U D n scb pb sb cgv C Z) (h0 : C[0]? = some (.pointer (some ⟨scb, 0, none⟩))) (h9 : C[2189]? = some (.pointer (some ⟨pb, 0, none⟩)))
    (hb : Below W.heap.size W w3) : Fin w ((w3.setCell ⟨sb, 2189, none⟩ (.pointer (some ⟨b, 0, none⟩))).setCell ⟨sb, 2188, none⟩ lv) U D n scb sb cgv lv (.pointer (some ⟨b, 0, none⟩)) := by
  have hsb := lt_of h.sim
  have o1 := h.o1
  have o2 := h.o2
  have sim3 : w3.heap[sb]? = some (.cells C 84 (0, 0)) := (hb.block _ hsb).trans h.sim
  have far : ∀ (x o : Nat) v, x < sb → W.cell? ⟨x, o, none⟩ = some v → ((w3.setCell ⟨sb, 2189, none⟩ (.pointer (some ⟨b, 0, none⟩))).setCell ⟨sb, 2188, none⟩ lv).cell? ⟨x, o, none⟩ = some v := fun x o v hx hc => by
    rw [World.cell?_setCell_far _ _ _ _ (by simp; omega), World.cell?_setCell_far _ _ _ _ (by simp; omega), hb.cell (p := ⟨x, o, none⟩) (by simp; omega)]; exact hc
  have c89 : ∀ j, j < C.size → ∃ v, w3.cell? ⟨sb, j, none⟩ = some v := fun j hj => ⟨C[j], by rw [cell_of_row _ _ _ _ _ _ sim3]; exact Array.getElem?_eq_getElem hj⟩
  have hsz := sz_of_get h9
  obtain ⟨v8, hv8⟩ := c89 2188 (by omega)
  obtain ⟨v9, hv9⟩ := c89 2189 hsz
  have e8 : (w3.setCell ⟨sb, 2189, none⟩ (.pointer (some ⟨b, 0, none⟩))).cell? ⟨sb, 2188, none⟩ = some v8 := by rw [World.cell?_setCell_other _ _ _ _ (by simp)]; exact hv8
  refine ⟨fun i hi => far _ _ _ (by omega) (h.u i hi), fun i hi => far _ _ _ (by omega) (h.d i hi), ?_, far _ _ _ o2 h.c15, World.cell?_setCell_same _ _ _ e8, ?_, (((h.bel.trans (hb.mono h.bel.size))).setCell (by simp; omega) _).setCell (by simp; omega) _⟩
  · rw [World.cell?_setCell_other _ _ _ _ (by simp), World.cell?_setCell_other _ _ _ _ (by simp), cell_of_row _ _ _ _ _ _ sim3]; exact h0
  · rw [World.cell?_setCell_other _ _ _ _ (by simp)]; exact World.cell?_setCell_same _ _ _ hv9

theorem Pre.buildY {w w1 : World} {U D : Nat → Int} {n : Nat} {C Z sc : Array Value} {o : Obj} {cg : Array Value} {cgv : Option Addr} (hS : St w w1 U D n n) (h15 : sc[15]? = some (.pointer cgv)) :
    Pre w (((((w1.alloc o).alloc (.cells cg 115)).alloc (.cells sc 131)).alloc (.cells Z 147)).alloc (.cells C 84)) U D n (w.heap.size + 2 + 1 + 1) (w.heap.size + 2 + 1 + 1 + 1) (w.heap.size + 2 + 1 + 1 + 1 + 1) cgv C Z ∧ (((((w1.alloc o).alloc (.cells cg 115)).alloc (.cells sc 131)).alloc (.cells Z 147)).alloc (.cells C 84)).heap[w.heap.size + 2 + 1]? = some (.cells cg 115 (0, 0)) := by
  have hz := hS.sz
  obtain ⟨w0, h0⟩ : ∃ w0, w0 = w1.alloc o := ⟨_, rfl⟩
  have z0 : w0.heap.size = w.heap.size + 2 + 1 := by rw [h0]; simp; omega
  have b0 : Below w1.heap.size w1 w0 := by rw [h0]; exact bel_alloc (Below.refl _ _) _
  rw [← h0]
  obtain ⟨w2, h2⟩ : ∃ w2, w2 = w0.alloc (.cells cg 115) := ⟨_, rfl⟩
  have z2 : w2.heap.size = w.heap.size + 2 + 1 + 1 := by rw [h2]; simp; omega
  have b2 : Below w0.heap.size w0 w2 := by rw [h2]; exact bel_alloc (Below.refl _ _) _
  have l2 : w2.heap[w.heap.size + 2 + 1]? = some (.cells cg 115 (0, 0)) := by rw [h2, ← z0]; exact heap_alloc_last _ _
  rw [← h2]
  obtain ⟨w3, h3⟩ : ∃ w3, w3 = w2.alloc (.cells sc 131) := ⟨_, rfl⟩
  have z3 : w3.heap.size = w.heap.size + 2 + 1 + 1 + 1 := by rw [h3]; simp; omega
  have b3 : Below w2.heap.size w2 w3 := by rw [h3]; exact bel_alloc (Below.refl _ _) _
  have l3 : w3.heap[w.heap.size + 2 + 1 + 1]? = some (.cells sc 131 (0, 0)) := by rw [h3, ← z2]; exact heap_alloc_last _ _
  rw [← h3]
  obtain ⟨w4, h4⟩ : ∃ w4, w4 = w3.alloc (.cells Z 147) := ⟨_, rfl⟩
  have z4 : w4.heap.size = w.heap.size + 2 + 1 + 1 + 1 + 1 := by rw [h4]; simp; omega
  have b4 : Below w3.heap.size w3 w4 := by rw [h4]; exact bel_alloc (Below.refl _ _) _
  have l4 : w4.heap[w.heap.size + 2 + 1 + 1 + 1]? = some (.cells Z 147 (0, 0)) := by rw [h4, ← z3]; exact heap_alloc_last _ _
  rw [← h4]
  have b5 : Below w4.heap.size w4 (w4.alloc (.cells C 84)) := bel_alloc (Below.refl _ _) _
  have l5 : (w4.alloc (.cells C 84)).heap[w.heap.size + 2 + 1 + 1 + 1 + 1]? = some (.cells C 84 (0, 0)) := by rw [← z4]; exact heap_alloc_last _ _
  have all : Below w1.heap.size w1 (w4.alloc (.cells C 84)) := b0.trans ((b2.mono (by omega)).trans ((b3.mono (by omega)).trans ((b4.mono (by omega)).trans (b5.mono (by omega)))))
  refine ⟨⟨fun i hi => ?_, fun i hi => ?_, l5, ?_, (b5.block _ (by omega)).trans l4, hS.bel.trans (all.mono (by omega)), by omega, by omega, by omega, by omega, by omega⟩, (b5.block _ (by omega)).trans ((b4.block _ (by omega)).trans ((b3.block _ (by omega)).trans l2))⟩
  · rw [all.cell (p := ⟨w.heap.size, i, none⟩) (by simp; omega), hS.u.cell hi]; simp [fl, hi]
  · rw [all.cell (p := ⟨w.heap.size + 1, i, none⟩) (by simp; omega), hS.d.cell hi]; simp [fl, hi]
  · rw [cell_of_row _ _ _ _ _ _ ((b5.block _ (by omega)).trans ((b4.block _ (by omega)).trans l3))]; exact h15

theorem links_yes_at {w w1 : World} {U D : Nat → Int} {n : Nat} {C Z sc : Array Value} {o : Obj} (hS : St w w1 U D n n) (hn : n ≤ 1048576) (h15 : sc[15]? = some (.pointer (some ⟨w.heap.size + 2 + 1, 0, none⟩))) (hC0 : C[0]? = some (.pointer (some ⟨w.heap.size + 2 + 1 + 1, 0, none⟩))) (hC9 : C[2189]? = some (.pointer (some ⟨w.heap.size + 2 + 1 + 1 + 1, 0, none⟩))) :
    Calls Yba.prog 8 #[.pointer (some ⟨w.heap.size + 2 + 1 + 1 + 1 + 1, 0, none⟩), .slice (some ⟨w.heap.size, 0, none⟩) n n, .slice (some ⟨w.heap.size + 1, 0, none⟩) n n] (((((w1.alloc o).alloc (.cells #[.int .i64 0, .int .i64 0, .int .i64 0, .int .i64 0] 115)).alloc (.cells sc 131)).alloc (.cells Z 147)).alloc (.cells C 84))
      fun e w5 => e = .returned (.tuple #[]) ∧ ∃ b cs, Fin w w5 U D n (w.heap.size + 2 + 1 + 1) (w.heap.size + 2 + 1 + 1 + 1 + 1) (some ⟨w.heap.size + 2 + 1, 0, none⟩) (.iface 70 (.pointer (some ⟨b, 0, none⟩))) (.pointer (some ⟨b, 0, none⟩)) ∧
        b ≠ w.heap.size + 2 + 1 + 1 + 1 ∧ w5.heap[b]? = some (.cells cs 147 (0, 0)) ∧ w5.heap[w.heap.size + 2 + 1 + 1 + 1]? = some (.cells Z 147 (0, 0)) := by
  obtain ⟨HP, hcg⟩ := Pre.buildY (C := C) (Z := Z) (o := o) (cg := #[.int .i64 0, .int .i64 0, .int .i64 0, .int .i64 0]) (cgv := some ⟨w.heap.size + 2 + 1, 0, none⟩) hS h15
  obtain ⟨W, hW⟩ : ∃ W, W = (((((w1.alloc o).alloc (.cells #[.int .i64 0, .int .i64 0, .int .i64 0, .int .i64 0] 115)).alloc (.cells sc 131)).alloc (.cells Z 147)).alloc (.cells C 84)) := ⟨_, rfl⟩
  rw [← hW] at HP hcg ⊢
  have hg : ∀ j v, (#[Value.int .i64 0, .int .i64 0, .int .i64 0, .int .i64 0] : Array Value)[j]? = some v → W.cell? ⟨w.heap.size + 2 + 1, j, none⟩ = some v := fun j v hv => by rw [cell_of_row _ _ _ _ _ _ hcg]; exact hv
  have hsb := lt_of HP.sim
  refine (links_yes (w.heap.size + 2 + 1 + 1 + 1 + 1) (w.heap.size + 2 + 1 + 1) (w.heap.size + 2 + 1) w.heap.size (w.heap.size + 1) n _ C W hn rfl HP.sim (sz_of_get hC9) hC0 (by omega) (by omega) (fun i hi => ⟨_, HP.u i hi⟩) (fun i hi => ⟨_, HP.d i hi⟩) (lt_of hcg) (by omega) HP.c15 (hg 0 _ rfl) (hg 1 _ rfl) (hg 2 _ rfl) (hg 3 _ rfl)).mono ?_
  rintro e w5 ⟨rfl, b, cs, w6, hb1, hb2, hb3, rfl⟩
  have n1 : b ≠ w.heap.size + 2 + 1 + 1 + 1 + 1 := by omega
  refine ⟨rfl, b, cs, HP.yes hC0 hC9 hb3, by omega, ?_, ?_⟩
  · rw [Below.heap_setCell _ _ _ _ n1, Below.heap_setCell _ _ _ _ n1]; exact hb2
  · rw [Below.heap_setCell _ _ _ _ (by simp), Below.heap_setCell _ _ _ _ (by simp), hb3.block _ (by omega)]; exact HP.pri

set_option maxRecDepth 10000 in
set_option maxHeartbeats 4000000 in
theorem law_yes (n l0 l1 c0 c1 : Nat) (a0 a1 : Option Addr) (U D : Nat → Int) (w : World) (hl0 : l0 ≤ 1048576) (hl1 : l1 ≤ 1048576) (hmin0 : n = min l0 l1)
    (hU : ∀ j, j < n → ∃ ab ao, a0 = some ⟨ab, ao, none⟩ ∧ ab < w.heap.size ∧ w.cell? ⟨ab, ao + j, none⟩ = some (.int .u16 (U j)))
    (hD : ∀ j, j < n → ∃ ab ao, a1 = some ⟨ab, ao, none⟩ ∧ ab < w.heap.size ∧ w.cell? ⟨ab, ao + j, none⟩ = some (.int .u16 (D j))) :
    Calls Yba.prog 4 #[.slice a0 l0 c0, .slice a1 l1 c1, .bool true] w fun e w' => e = .returned (.bool true) ∧ Below w.heap.size w w' := by
  obtain ⟨C, hC⟩ := simFacts2
  have hn : n ≤ 1048576 := by omega
  have HM : Hid (n = min l0 l1) := hmin0
  clear hmin0
  have mk := run_make_row' (P := Yba.prog) 67 60 (.float .f64 0) 8 Yba.underlying67 info60 rfl .i64 .i64 n (by omega) (by omega)
  have add1 := run_add_oneF
  obtain ⟨Z, hZ⟩ := zero147
  go_enter Yba.func4, Yba.ntmps4
  go_upto_if 34 with fail
  go_cut [7] (fun v wx => v = .int .i64 n ∧ w = wx)
  case first =>
    by_cases hlt : l1 < l0
    · have hm : n = l1 := by have := HM.out; omega
      go_wp2
      go_meet
      case rel => exact ⟨by rw [hm], rfl⟩
    · have hm : n = l0 := by have := HM.out; omega
      go_wp2
      go_meet
      case rel => exact ⟨by rw [hm], rfl⟩
  case rest =>
    obtain ⟨rfl, rfl⟩ := hcut
    go_wp2
    clear mk
    go_loopw [10] (fun v wr => ∃ i : Nat, i ≤ n ∧ v = .int .i64 i ∧ St w wr U D n i) (fun v _ => n - (intOf v).toNat)
    case atStart => exact ⟨0, Nat.zero_le _, rfl, St.start w U D n⟩
    case round =>
      rename World => w1
      obtain ⟨i, hi, rfl, hS⟩ := hrel
      by_cases hlt : i < n
      · obtain ⟨ab, ao, rfl, hab, hac⟩ := hU i hlt
        obtain ⟨db, dof, rfl, hdb, hdc⟩ := hD i hlt
        have ea := (hS.bel.cell (p := ⟨ab, ao + i, none⟩) hab).trans hac
        have ed := (hS.bel.cell (p := ⟨db, dof + i, none⟩) hdb).trans hdc
        have r1 := hS.u.cell hlt
        have r2 := hS.u.frozen i
        have r3 := hS.d.cell hlt
        have r4 := hS.d.frozen i
        have n1 : db ≠ w.heap.size := by omega
        have n2 : (i : Int) < (l0 : Int) := by have := HM.out; omega
        have n3 : (i : Int) < (l1 : Int) := by have := HM.out; omega
        have HS : Hid (St w w1 U D n i) := hS
        clear hS hac hdc hC
        go_wp2
        go_roundw
        case rel => exact ⟨i + 1, by omega, by go_num, HS.out.step⟩
        case measure => simp [intOf]; omega
      · have hie : i = n := by omega
        subst hie
        have HS : Hid (St w w1 U D i i) := hS
        have hz := hS.sz
        clear hS add1
        go_wp2_with (first
          | (refine wpList_buildN _ rfl 147 _ rfl #[] (by simp) _ (hZ _) ?_)
          | (refine wpList_buildN _ rfl 84 _ rfl #[(0, .pointer (some ⟨_, 0, none⟩)), (27, .pointer (some ⟨_, 0, none⟩))] (by simp [Act.eval]; exact ⟨rfl, rfl⟩) _ ((hC _ _).1 _) ?_)
          | (go_at_call 8; go_must (refine (links_yes_at HS.out hn (by rfl) (hC (w.heap.size + 2 + 1 + 1) (w.heap.size + 2 + 1 + 1 + 1)).2.1 (hC (w.heap.size + 2 + 1 + 1) (w.heap.size + 2 + 1 + 1 + 1)).2.2).mono ?_; rintro e w5 ⟨rfl, b, cs, hF, hbne, hbr, hbp⟩; have HF : Hid (Fin w w5 U D i (w.heap.size + 2 + 1 + 1) (w.heap.size + 2 + 1 + 1 + 1 + 1) (some ⟨w.heap.size + 2 + 1, 0, none⟩) (.iface 70 (.pointer (some ⟨b, 0, none⟩))) (.pointer (some ⟨b, 0, none⟩))) := hF; have HQ : Hid (∀ nq, (binOp .neq 70 (.pointer (some ⟨b, 0, none⟩)) (.pointer (some ⟨w.heap.size + 2 + 1 + 1 + 1, 0, none⟩))).run Yba.prog (w5.drewN nq) = .ok (.bool true) (w5.drewN nq)) := fun nq => neq70_other hbne _ hbr hbp; clear hF hbne hbr hbp))
          | go_in)
        have add1 := run_add_oneF
        have neq1 := order_one
        go_loopw [16] (fun v wr => ∃ t nq : Nat, t ≤ i ∧ v = .int .i64 t ∧ wr = w5.drewN nq) (fun v _ => i - (intOf v).toNat)
        case atStart => exact ⟨0, 0, Nat.zero_le _, rfl, rfl⟩
        case round =>
          obtain ⟨t, nq0, ht, rfl, rfl⟩ := hrel
          by_cases htl : t < i
          · obtain ⟨ab, ao, rfl, hab, hac⟩ := hU t htl
            obtain ⟨db, dof, rfl, hdb, hdc⟩ := hD t htl
            have ea := (HF.out.bel.cell (p := ⟨ab, ao + t, none⟩) hab).trans hac
            have ed := (HF.out.bel.cell (p := ⟨db, dof + t, none⟩) hdb).trans hdc
            have x1 := HF.out.u t htl
            have x2 := HF.out.d t htl
            have n1 : (t : Int) < (i : Int) := by omega
            have n2 : (t : Int) < (l0 : Int) := by have := HM.out; omega
            have n3 : (t : Int) < (l1 : Int) := by have := HM.out; omega
            have n4 : (0 : Int) ≤ (t : Int) := by omega
            clear hac hdc hC
            go_wp2
            go_quiet (fail)
            go_wp2
            go_roundw
            case rel => exact ⟨t + 1, _, by omega, by go_num, by first | rfl | exact drewNB _ _ _⟩
            case measure => simp [intOf]; omega
          · have x1 := HF.out.s0
            have x2 := HF.out.c15
            have x3 := HF.out.l
            have x4 := HF.out.c
            have y1 := neq26
            have y2 := neq111
            have y3 := fun w p => run_neq_pointer_nil (P := Yba.prog) w 70 p (by kernel_rfl)
            have y6 := HQ.out nq0
            have y4 := eql70
            have y5 := ta70
            clear hC add1 neq1
            go_wp2
            go_ret
            exact ⟨rfl, below_drewNB HF.out.bel _⟩
end Go.Proofs.Ybulkdxsc
