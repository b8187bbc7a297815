/- LawS6216APart: the walk at no entry, and beyond the guard. -/
import Derived.Test.YbulkdxscALaw
namespace Go.Proofs.Ybulkdxsc
set_option linter.unusedVariables false
open Go.RowKit Go.Maps Go.WideMaps Go.WideElems

namespace lawS6216APart
set_option maxRecDepth 100000 in
set_option maxHeartbeats 4000000 in
theorem law_B (nodes nn : Int) (kk : Nat) (bb hh : Int) (pa : Option Addr) (cap : Nat) (w : World) (hkk : 1 ≤ kk) (hkk8 : kk ≤ 8) (hk : nodes % 8 + 1 = (kk : Int)) (hn0 : 0 ≤ nodes) (hn1 : nodes ≤ 255)
    (hnn0 : 0 ≤ nn) (hnn1 : nn ≤ 255) (hbb0 : 0 ≤ bb) (hbb1 : bb ≤ 4294967295) (hhw : (Lit.int .u8 hh).wf = true) :
    Calls Yba.prog 3 #[.int .u8 nodes, .int .u8 nn, .int .u32 bb, .int .u8 hh, .slice pa 0 cap] w fun e w' => e = .returned (.bool true) ∧ Below w.heap.size w w' := by
  obtain ⟨C, hC⟩ := simFacts
  have hmm := @run_makeMap Yba.prog
  have hmk := make_dl kk hkk8
  obtain ⟨cb, c1, c2⟩ := hC w.heap.size kk
  clear hC
  go_enter Yba.func3, Yba.ntmps3
  go_wp2_with (first
    | (refine wpList_build1 _ rfl 84 31 _ rfl (.slice (some ⟨w.heap.size, 0, none⟩) kk kk) rfl _ (cb _) ?_)
    | go_in)
  clear hk
  go_loopw [13] (fun i wr => ∃ k : Nat, k ≤ kk ∧ i = .int .i64 k ∧ St1 w wr kk k) (fun i _ => kk - (intOf i).toNat)
  case atStart => exact ⟨0, Nat.zero_le _, rfl, St1.start w kk _ c1 c2⟩
  case round =>
    rename World => w1
    obtain ⟨k, hk, rfl, hI⟩ := hrel
    clear hmk cb c1 c2
    have HI : Hid (St1 w w1 kk k) := hI
    have q1 := hI.sim
    by_cases hlt : k < kk
    · have hz := hI.sz
      have hz1 : w.heap.size + 1 < w1.heap.size := by omega
      have hz2 : w.heap.size < w1.heap.size := by omega
      obtain ⟨g, hg, _⟩ := hI.dl
      have q2 := hg.cell (i := k * 8) (by omega)
      have q3 := hg.frozen (k * 8)
      clear hI hg hz
      go_wp2
      go_roundw
      case rel => exact ⟨k + 1, by omega, by go_num, by rw [← World.setCell_alloc_past _ _ _ _ (by omega)]; exact HI.out.step⟩
      case measure => simp [intOf]; omega
    · have hke : k = kk := by omega
      subst hke
      clear hI hmm
      go_wp2
      refine wp_loop_rounds 1 ?_
      rw [rounds_succ]
      obtain ⟨L, hL0⟩ : ∃ L : List Ent, L = [] := ⟨_, rfl⟩
      obtain ⟨j, hj0⟩ : ∃ j : Nat, j = 0 := ⟨_, rfl⟩
      have HS : Hid (St w w1 k L j (.slice none 0 0) (.slice none 0 0)) := by rw [hL0, hj0]; exact St.start HI.out
      have hj1 : j ≤ 1024 := by omega
      clear hL0 hj0
      obtain ⟨i, hi⟩ : ∃ i : Nat, nn % (k : Int) = (i : Int) := ⟨(nn % (k : Int)).toNat, by have := Int.emod_nonneg nn (b := (k : Int)) (by omega); omega⟩
      have hik : i < k := by have := Int.emod_lt_of_pos nn (b := (k : Int)) (by omega); omega
      have hlen := HS.out.len
      have hmk2 := run_make_row' (P := Yba.prog) 50 3 (.int .i64 0) 8 Yba.underlying50 info3 rfl .i64 .i64 k (by omega) (by omega)
      clear q1 HI
      go_wp2_with (first
        | (go_at_call 6; refine (put_shape (.slice none 0 0) (.slice none 0 0) L (i : Int) (bb + 1) hh (w.heap.size + 2 + k) _ (by omega) HS.out.nd HS.out.ks HS.out.vs HS.out.sz).mono ?_; rintro e w4 ⟨g, kc, h, vc, L', hP, rfl, k4, v4, b4⟩)
        | (go_at_call 7; refine (set_any (w.heap.size + 1) w.heap.size k i (w.heap.size + 2 + i) j (cntN L i) (fL L i) (bb + 1) hh _ hik hkk8 (by omega) (by omega) hhw (by omega) ((b4.cell (by simp; omega)).trans HS.out.hon) ((b4.cell (by simp; omega)).trans HS.out.sim) ((b4.cell (by simp; omega)).trans (HS.out.dl i hik)) ((HS.out.mp i hik).of_block (b4.block _ (by omega)))).mono ?_; rintro e w5 ⟨rfl, m5, g5⟩; have HT : Hid (St w w5 k L' (j + 1) (.slice (some ⟨g, 0, none⟩) L'.length kc) (.slice (some ⟨h, 0, none⟩) L'.length vc)) := HS.out.step' hik (by omega) (by omega) hhw hP k4 v4 b4 m5 g5))
      have hL1 : L'.length ≤ 1025 := by have := HT.out.len; omega
      go_loopw [25] (fun i wr => ∃ t : Nat, t ≤ L'.length ∧ i = .int .i64 t ∧ St w wr k L' (j + 1) (.slice (some ⟨g, 0, none⟩) L'.length kc) (.slice (some ⟨h, 0, none⟩) L'.length vc) ∧ wr.rowIs w5.heap.size 3 k (fun q => .int .i64 (cntN (L'.take t) q))) (fun i _ => L'.length - (intOf i).toNat)
      case atStart => exact ⟨0, Nat.zero_le _, rfl, HT.out.later ((Below.refl _ _).alloc (Nat.le_refl _) _), (World.rowIs_made w5 (.int .i64 0) k 3).congr (fun q _ => by simp [cntN, keysOf])⟩
      case round =>
        rename World => w6
        obtain ⟨t, ht, rfl, hU, hrow⟩ := hrel
        have HU : Hid (St w w6 k L' (j + 1) (.slice (some ⟨g, 0, none⟩) L'.length kc) (.slice (some ⟨h, 0, none⟩) L'.length vc)) := hU
        have HR : Hid (w6.rowIs w5.heap.size 3 k (fun q => .int .i64 (cntN (L'.take t) q))) := hrow
        have hcb : w.heap.size + 2 + k ≤ w5.heap.size := HT.out.sz
        have hcl := hrow.lt
        clear hmk2 hi
        by_cases htl : t < L'.length
        · obtain ⟨⟨en, eb, ev⟩, he⟩ : ∃ e, L'[t]? = some e := ⟨L'[t], List.getElem?_eq_getElem htl⟩
          obtain ⟨f0, f1, f2, f3, f4⟩ := hU.wf _ (List.mem_of_getElem? he)
          simp only at f0 f1 f2 f3 f4
          obtain ⟨q, rfl⟩ := Int.eq_ofNat_of_zero_le f0
          have hqk : q < k := by omega
          have hkc := kCells_at L' t _ he
          have c0 : w6.cell? ⟨g, t * 2, none⟩ = some (.int .i64 (q : Int)) := by rw [hU.ks.cellAt (t * 2) (by omega)]; exact hkc.1
          have c1 : w6.cell? ⟨g, t * 2 + 1, none⟩ = some (.int .i64 eb) := by rw [hU.ks.cellAt (t * 2 + 1) (by omega)]; exact hkc.2
          have c2 : w6.cell? ⟨h, t, none⟩ = some (.int .u8 ev) := by rw [hU.vs.cellAt t (by omega)]; simp [vCells, he]
          have c3 : w6.cell? ⟨w5.heap.size, q, none⟩ = some (.int .i64 (cntN (L'.take t) q)) := hrow.cell hqk
          have c4 : w6.frozen? ⟨w5.heap.size, q, none⟩ = false := hrow.frozen q
          have hcn : cntN (L'.take t) q ≤ 1025 := by have := cntN_le (L'.take t) q; have := List.length_take_le t L'; omega
          have HE : Hid (L'[t]? = some ((q : Int), eb, ev)) := he
          clear hU hrow he hkc f0
          go_wp2
          have hne : ∀ c t, w6.heap[w5.heap.size]? = some (.cells c t (0, 0)) → t ≠ 103 ∧ t ≠ 99 := fun c t' hc => by
            obtain ⟨c', hc', _⟩ := HR.out
            rw [hc'] at hc
            simp at hc
            rw [← hc.2]
            decide
          have X1 := HU.out.setOther w5.heap.size q (.int .i64 ((cntN (L'.take t) q : Int) + 1)) hcb hne
          have X2 := X1.later ((Below.refl _ (w6.setCell ⟨w5.heap.size, q, none⟩ (.int .i64 ((cntN (L'.take t) q : Int) + 1)))).alloc (Nat.le_refl _) (.cells #[.int .i64 (q : Int), .int .i64 eb] 103))
          have X3 := (HR.out.set q (.int .i64 ((cntN (L'.take t) q : Int) + 1))).alloc (.cells #[.int .i64 (q : Int), .int .i64 eb] 103)
          have X4 : ((w6.setCell ⟨w5.heap.size, q, none⟩ (.int .i64 ((cntN (L'.take t) q : Int) + 1))).alloc (.cells #[.int .i64 (q : Int), .int .i64 eb] 103)).cell? ⟨w6.heap.size, 0, none⟩ = some (.int .i64 (q : Int)) := by rw [World.cell?_alloc_at _ _ _ _ (by simp)]; rfl
          have X5 : ((w6.setCell ⟨w5.heap.size, q, none⟩ (.int .i64 ((cntN (L'.take t) q : Int) + 1))).alloc (.cells #[.int .i64 (q : Int), .int .i64 eb] 103)).cell? ⟨w6.heap.size, 1, none⟩ = some (.int .i64 eb) := by rw [World.cell?_alloc_at _ _ _ _ (by simp)]; rfl
          clear X1
          obtain ⟨w7, hw7⟩ : ∃ w7, w7 = (w6.setCell ⟨w5.heap.size, q, none⟩ (.int .i64 ((cntN (L'.take t) q : Int) + 1))).alloc (.cells #[.int .i64 (q : Int), .int .i64 eb] 103) := ⟨_, rfl⟩
          rw [← hw7] at X2 X3 X4 X5 ⊢
          clear hw7 c0 c1 c2 c3 c4 hne
          have HX : Hid (St w w7 k L' (j + 1) (.slice (some ⟨g, 0, none⟩) L'.length kc) (.slice (some ⟨h, 0, none⟩) L'.length vc)) := X2
          have c2 : w7.cell? ⟨h, t, none⟩ = some (.int .u8 ev) := by rw [X2.vs.cellAt t (by omega)]; simp [vCells, HE.out]
          have Y1 := X2.sim
          have Y2 := X2.dl q hqk
          have Y3 := fun nq => (X2.later (below_drewN' (Below.refl _ w7) nq)).mp q hqk |>.look2_hit key3 Yba.underlying85 zero99 (plainElem_int Yba.underlying99 (by decide)) (keyI_ok f2 f3) (d := .lit (.int .u8 ev)) (by show (look L' q eb).map _ = _; rw [look_at L' X2.nd t _ HE.out]; rfl) (u8_inv ev)
          have b1 : (0 : Int) ≤ (q : Int) := by omega
          have b2 : (q : Int) < (k : Int) := by omega
          have HR7 : Hid (w7.rowIs w5.heap.size 3 k (fun r => .int .i64 (cntN (L'.take (t + 1)) r))) := X3.congr (fun r _ => by
            rw [cntN_take L' t _ HE.out]
            by_cases hr : r = q
            · subst hr; simp
            · have : ¬ (r : Int) = (q : Int) := by omega
              simp [hr, this])
          clear X2 X3
          go_quiet (fail)
          go_wp2
          go_roundw
          case rel => exact ⟨t + 1, by omega, by go_num, HX.out.later (below_drewN' (Below.refl _ w7) nq), HR7.out.of_block rfl⟩
          case measure => simp [intOf]; omega
        · have hte : t = L'.length := by omega
          subst hte
          rw [List.take_length] at hrow
          have HR : Hid (w6.rowIs w5.heap.size 3 k (fun r => .int .i64 (cntN L' r))) := hrow
          clear hU hrow
          go_wp2
          go_loopw [29] (fun i wr => ∃ t : Nat, t ≤ k ∧ i = .int .i64 t ∧ Below w6.heap.size w6 wr) (fun i _ => k - (intOf i).toNat)
          case atStart => exact ⟨0, Nat.zero_le _, rfl, Below.refl _ _⟩
          case round =>
            rename World => w8
            obtain ⟨r, hr, rfl, hb8⟩ := hrel
            have HX : Hid (St w w8 k L' (j + 1) (.slice (some ⟨g, 0, none⟩) L'.length kc) (.slice (some ⟨h, 0, none⟩) L'.length vc)) := HU.out.later hb8
            by_cases hrk : r < k
            · have Y1 := HX.out.sim
              have Y2 := HX.out.dl r hrk
              have Y3 := fun ty nq => (HX.out.later (below_drewN' (Below.refl _ w8) nq)).mp r hrk |>.len Yba.underlying85 ty
              have Y4 : w8.cell? ⟨w5.heap.size, r, none⟩ = some (.int .i64 (cntN L' r)) := (hb8.cell (by exact hcl)).trans (HR.out.cell hrk)
              have b1 : (0 : Int) ≤ (r : Int) := by omega
              have b2 : (r : Int) < (k : Int) := by omega
              go_wp2
              go_quiet (fail)
              go_wp2
              go_roundw
              case rel => exact ⟨r + 1, by omega, by go_num, hb8.trans (below_drewN' (Below.refl _ w8) nq |>.mono hb8.size)⟩
              case measure => simp [intOf]; omega
            · have Y1 := HX.out.hon
              go_wp2
              go_ret
              exact ⟨rfl, HX.out.bel⟩

set_option maxRecDepth 100000 in
theorem law_big (nodes nn bb hh : Int) (pa : Option Addr) (n cap : Nat) (w : World) (hn : 1024 < (n : Int)) (hm : n ≤ maxLen) :
    Calls Yba.prog 3 #[.int .u8 nodes, .int .u8 nn, .int .u32 bb, .int .u8 hh, .slice pa n cap] w fun e w' => e = .returned (.bool true) ∧ Below w.heap.size w w' := by
  unfold maxLen at hm
  go_enter Yba.func3, Yba.ntmps3
  go_wp2
  go_ret
  exact ⟨rfl, Below.refl _ _⟩
end lawS6216APart
end Go.Proofs.Ybulkdxsc
