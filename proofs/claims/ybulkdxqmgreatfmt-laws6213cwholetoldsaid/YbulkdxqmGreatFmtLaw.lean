/- LawS6213CWhole: the law. -/
import Derived.Test.YbulkdxqmGreatFmtFin
import Derived.Test.YbulkdxqmGreatFmtIds
import Derived.Test.YbulkdxqmGreatFmtShelf
namespace Go.Proofs.YbulkdxqmGreatFmt
set_option linter.unusedVariables false
open Go.RowKit

/-- The specs as they lie. -/
def Specs (w : World) (a : Option Addr) (N : Nat) (I S : Nat → Int) (B : Nat → Bool) : Prop :=
  ∀ i, i < N → ∃ ab ao, a = some ⟨ab, ao, none⟩ ∧ ab < w.heap.size ∧ w.cell? ⟨ab, ao + i * 3, none⟩ = some (.int .i64 (I i)) ∧ w.cell? ⟨ab, ao + i * 3 + 1, none⟩ = some (.int .i64 (S i)) ∧ w.cell? ⟨ab, ao + i * 3 + 2, none⟩ = some (.bool (B i))
/-- What stands at the first loop's head. -/
def Head (w W : World) (N : Nat) (v49 v10 v12 v13 v14 v15 : Value) : Prop :=
  ∃ i T P id slots sum want, i ≤ N ∧ v49 = .int .i64 (i : Nat) ∧ v10 = .int .i64 want ∧ v15 = .int .i64 sum ∧ P.length ≤ i ∧
    St w W i T (fun _ => False) P id slots sum want v12 v13 v14 (P.map ptr) (P.map fun k => .int .i64 (id k)) (P.map fun k => .int .i64 (slots k))
theorem below_more {n₀ : Nat} {w W : World} (h : Below n₀ w W) (nq : Nat) : Below n₀ w (W.drewN nq) := ⟨h.os, h.tape, h.output, h.size, h.block⟩

set_option maxRecDepth 100000 in
set_option maxHeartbeats 4000000 in
theorem law3 (start : Int) (a : Option Addr) (N cap : Nat) (I S : Nat → Int) (B : Nat → Bool) (w : World) (hN : N ≤ 65536) (hI : Specs w a N I S B) (hr : ∀ i, InI64 (I i)) :
    Calls Ybaz.prog 3 #[.int .i64 start, .slice a N cap] w fun e w' => e = .returned (.bool true) ∧ Below w.heap.size w w' := by
  have HI : Hid (Specs w a N I S B) := hI
  have HR : Hid (∀ i, InI64 (I i)) := hr
  obtain ⟨CS, hCS⟩ := subFacts
  obtain ⟨CJ, hCJ⟩ := jobFacts
  have HCJ : Hid (∀ v s b, (∀ w, (Instr.build 32 (jobParts v s b).toArray).run Ybaz.prog w = .ok (.agg (CJ v s b)) w) ∧ JobC (CJ v s b) v s) := hCJ
  obtain ⟨CN, hCN, hCN24⟩ := negFacts
  have r51 := fun w1 => (hCS start (w.heap.size + 1) (w.heap.size + 2)).1 w1
  have HS51 : Hid (SubC (CS start (w.heap.size + 1) (w.heap.size + 2)) start (w.heap.size + 1) (w.heap.size + 2)) := (hCS start (w.heap.size + 1) (w.heap.size + 2)).2
  unfold subParts queueC at r51
  generalize CS start (w.heap.size + 1) (w.heap.size + 2) = C at r51 HS51
  clear hCS hCJ hI hr
  go_enter Ybaz.func3, Ybaz.ntmps3
  go_upto_region 6 with fail
  go_upto_region 7 with (refine wpList_buildN _ rfl 51 _ rfl #[(17, .agg #[.func (.func 4) #[] #[], .int .i64 0, .bool false, .pointer none, .int .i64 0, .int .i64 0, .int .i64 0, .pointer (some ⟨w.heap.size + 1, 0, none⟩)]), (18, .pointer (some ⟨w.heap.size + 2, 0, none⟩)), (3, .int .i64 start), (11, .string { data := #[115] })] (by simp [Act.eval]) _ (r51 _) ?_)
  go_upto_region 8 with (refine wpList_buildN _ rfl 94 _ rfl #[] (by simp) _ (hCN _) ?_)
  have hmm := @run_makeMap Ybaz.prog
  go_upto_region 14 with fail
  clear hmm r51 hCN
  go_wp2
  go_loopw [49, 10, 12, 13, 14, 15] (fun v49 v10 v12 v13 v14 v15 W => Head w W N v49 v10 v12 v13 v14 v15) (fun v49 _ _ _ _ _ _ => N - (intOf v49).toNat)
  case atStart => exact ⟨0, _, [], _, _, start, 0, Nat.zero_le _, rfl, rfl, rfl, Nat.le_refl _, St.start w C CN start HS51.out hCN24⟩
  case round =>
    rename World => W
    obtain ⟨i, T, P, id, slots, sum, want, hiN, rfl, rfl, rfl, hPi, hSt⟩ := hrel
    have HSt : Hid (St w W i T (fun _ => False) P id slots sum want u12 u13 u14 (P.map ptr) (P.map fun k => .int .i64 (id k)) (P.map fun k => .int .i64 (slots k))) := hSt
    clear hSt hCN24
    by_cases hlt : i < N
    · obtain ⟨ab, ao, rfl, hab, e0, e1, e2⟩ := HI.out i hlt
      have d0 := (HSt.out.bel.cell (p := ⟨ab, ao + i * 3, none⟩) hab).trans e0
      have d1 := (HSt.out.bel.cell (p := ⟨ab, ao + i * 3 + 1, none⟩) hab).trans e1
      have d2 := (HSt.out.bel.cell (p := ⟨ab, ao + i * 3 + 2, none⟩) hab).trans e2
      clear e0 e1 e2
      go_upto_region 18 with fail
      have hB := HSt.out.box (.cells #[.int .i64 (I i), .int .i64 (S i), .bool (B i)] 97)
      have hQ : (W.alloc (.cells #[.int .i64 (I i), .int .i64 (S i), .bool (B i)] 97)).heap[W.heap.size]? = some (.cells #[.int .i64 (I i), .int .i64 (S i), .bool (B i)] 97 (0, 0)) := heap_alloc_new _ _
      generalize (W.alloc (.cells #[.int .i64 (I i), .int .i64 (S i), .bool (B i)] 97)) = W1 at hB hQ ⊢
      generalize W.heap.size = q at hB hQ ⊢
      have HB : Hid (St w W1 i T (fun x => x = q) P id slots sum want u12 u13 u14 (P.map ptr) (P.map fun k => .int .i64 (id k)) (P.map fun k => .int .i64 (slots k))) := hB
      have HX : Hid (W1.cell? ⟨q, 0, none⟩ = some (.int .i64 (I i)) ∧ W1.cell? ⟨q, 1, none⟩ = some (.int .i64 (S i)) ∧ W1.cell? ⟨q, 2, none⟩ = some (.bool (B i))) := ⟨by rw [cell_of_row _ _ _ _ _ _ hQ]; rfl, by rw [cell_of_row _ _ _ _ _ _ hQ]; rfl, by rw [cell_of_row _ _ _ _ _ _ hQ]; rfl⟩
      have x0 := HX.out.1
      clear hB hQ d0 d1 d2 HSt
      by_cases hsn : I i ∈ P.map id
      · have hk : (Instr.lookup 95 (.map (some (w.heap.size + 1 + 1 + 1 + 1 + 1))) (.int .i64 (I i)) false).run Ybaz.prog W1 = .ok (.bool true) W1 := HB.out.seen.hit (HR.out i) hsn
        go_wp2
        go_roundw
        case rel => exact ⟨i + 1, T, P, id, slots, sum, want, by omega, by go_num, rfl, rfl, by omega, (HB.out.more (Nat.le_succ i)).drop⟩
        case measure => simp [intOf]; omega
      · have HSN : Hid (I i ∉ P.map id) := hsn
        have hk : (Instr.lookup 95 (.map (some (w.heap.size + 1 + 1 + 1 + 1 + 1))) (.int .i64 (I i)) false).run Ybaz.prog W1 = .ok (.bool false) W1 := HB.out.seen.miss (HR.out i) hsn
        go_upto_region 19 with fail
        clear hk hsn
        go_upto_region 20 with (at_mapUpdate; refine wpList_seen rfl _ _ _ rfl rfl HB.out.seen (by omega) (I i) rfl rfl (HR.out i) ?_; intro W2 hs2 hc2)
        have HS2 : Hid (Seen W2 (w.heap.size + 5) (i + 1) (fun y => y = I i ∨ y ∈ P.map id)) := hs2
        have HC2 : Hid (Chg (fun x _ => x = w.heap.size + 5) W1 W2) := hc2
        have hqn : q ≠ w.heap.size + 5 := (HB.out.kp q rfl).2.1
        have x20 : W2.cell? ⟨q, 0, none⟩ = some (.int .i64 (I i)) := hc2.keep HX.out.1 hqn
        have x21 : W2.cell? ⟨q, 1, none⟩ = some (.int .i64 (S i)) := hc2.keep HX.out.2.1 hqn
        have x22 : W2.cell? ⟨q, 2, none⟩ = some (.bool (B i)) := hc2.keep HX.out.2.2 hqn
        clear hs2 hc2 x0 hqn
        go_upto_region 21 with (refine wpList_buildN _ rfl 32 _ rfl #[(4, .int .i64 (I i)), (6, .int .i64 (S i)), (3, .bool (B i)), (5, .string { data := #[115] })] (by simp [Act.eval]) _ ((HCJ.out (I i) (S i) (B i)).1 _) ?_)
        clear x20 x21 x22
        go_upto_region 22 with (go_at_call 6; fail)
        refine (HB.out.wait HS2.out HC2.out (HCJ.out (I i) (S i) (B i)).2 HSN.out (by omega)).mono ?_
        rintro e W4 ⟨rfl, T', id', slots', hS4, hi4, hs4, ho4, hk4, ⟨p0, hl0⟩, ⟨p1, hl1⟩, hl2⟩
        generalize W2.heap.size = j at hS4 hi4 hs4 ho4 hl0 hl1 hl2 ⊢
        have HS4 : Hid (St w W4 (i + 1) T' (fun x => x = q) (P ++ [j]) id' slots' (wrap64 (sum + S i)) (wrap64 (want + 1)) u12 u13 u14 (P.map ptr) (P.map fun k => .int .i64 (id k)) (P.map fun k => .int .i64 (slots k))) := hS4
        have HE : Hid (id' j = I i ∧ slots' j = S i ∧ ∀ k ∈ P, id' k = id k ∧ slots' k = slots k) := ⟨hi4, hs4, ho4⟩
        have HL : Hid (W4.cell? ⟨j, 0, none⟩ = some (ptr p0) ∧ W4.cell? ⟨j, 1, none⟩ = some (ptr p1) ∧ W4.cell? ⟨j, 2, none⟩ = some (.pointer none)) := ⟨hl0, hl1, hl2⟩
        have HY : Hid (W4.cell? ⟨q, 0, none⟩ = some (.int .i64 (I i)) ∧ W4.cell? ⟨q, 1, none⟩ = some (.int .i64 (S i))) := ⟨(World.cell?_of_block (a := ⟨q, 0, none⟩) (hk4 q rfl)).trans HX.out.1, (World.cell?_of_block (a := ⟨q, 1, none⟩) (hk4 q rfl)).trans HX.out.2.1⟩
        have y1 := HY.out.2
        clear hS4 hi4 hs4 ho4 hk4 hl0 hl1 hl2 HB HS2 HC2 HSN HX
        go_upto_region 24 with fail
        have H5 : Hid (St w (W4.alloc (.cells #[.pointer (some ⟨j, 0, none⟩)] 23)) (i + 1) T' (fun x => x = q) (P ++ [j]) id' slots' (wrap64 (sum + S i)) (wrap64 (want + 1)) u12 u13 u14 (P.map ptr) (P.map fun k => .int .i64 (id k)) (P.map fun k => .int .i64 (slots k))) := HS4.out.later ((Below.refl _ W4).alloc (Nat.le_refl _) _)
        obtain ⟨i1, hi1, hz1, hzs1, hzb1⟩ := info_parts binfo23
        clear y1
        go_upto_region 25 with (refine wpList_append_chg rfl _ _ 47 rfl w.heap.size 23 i1 (.pointer none) 8 Ybaz.underlying47 hi1 hz1 hzs1 hzb1 rfl u12 _ _ rfl H5.out.r12 ⟨W4.heap.size, 0, none⟩ 1 (.pointer (some ⟨j, 0, none⟩)) rfl (by rw [cell_of_row _ _ _ _ _ _ (heap_alloc_new _ _)]; rfl) rfl (by omega) (by rw [List.length_map]; omega) H5.out.bel.size ?_; intro g12 c12 W6 ho12 hc12 hg12)
        obtain ⟨h6, k6⟩ := H5.out.app12 ho12 hc12 hg12
        have hTj : T' j := HS4.out.core.base j (by simp)
        have hjl : j < W4.heap.size := (HS4.out.core.lo j hTj).2
        have hql : q < W4.heap.size := (HS4.out.kp q rfl).2.2.2.2.2
        have HT6 : Hid (W6.heap[j]? = W4.heap[j]? ∧ W6.heap[q]? = W4.heap[q]?) := ⟨(hc12.blk j (by simp; omega) (fun t e => (H5.out.a12 j e).1 hTj)).trans (heap_alloc_old _ _ hjl), (k6 q rfl).trans (heap_alloc_old _ _ hql)⟩
        simp only [List.length_map] at h6
        generalize Value.slice (some ⟨g12, 0, none⟩) (P.length + 1) c12 = s12 at h6 ⊢
        have H6 : Hid (St w W6 (i + 1) T' (fun x => x = q) (P ++ [j]) id' slots' (wrap64 (sum + S i)) (wrap64 (want + 1)) s12 u13 u14 (P.map ptr ++ [.pointer (some ⟨j, 0, none⟩)]) (P.map fun k => .int .i64 (id k)) (P.map fun k => .int .i64 (slots k))) := h6
        have y0 : W6.cell? ⟨q, 0, none⟩ = some (.int .i64 (I i)) := (World.cell?_of_block (a := ⟨q, 0, none⟩) HT6.out.2).trans HY.out.1
        clear h6 k6 ho12 hc12 hg12 hi1 hz1 hzs1 hzb1 H5 hTj hjl hql
        have H7 : Hid (St w (W6.alloc (.cells #[.int .i64 (I i)] 2)) (i + 1) T' (fun x => x = q) (P ++ [j]) id' slots' (wrap64 (sum + S i)) (wrap64 (want + 1)) s12 u13 u14 (P.map ptr ++ [.pointer (some ⟨j, 0, none⟩)]) (P.map fun k => .int .i64 (id k)) (P.map fun k => .int .i64 (slots k))) := H6.out.later ((Below.refl _ W6).alloc (Nat.le_refl _) _)
        obtain ⟨i2, hi2, hz2, hzs2, hzb2⟩ := info_parts binfo2
        go_upto_region 26 with (refine wpList_append_chg rfl _ _ 53 rfl w.heap.size 2 i2 (.int .i64 0) 8 Ybaz.underlying53 hi2 hz2 hzs2 hzb2 rfl u13 _ _ rfl H7.out.r13 ⟨W6.heap.size, 0, none⟩ 1 (.int .i64 (I i)) rfl (by rw [cell_of_row _ _ _ _ _ _ (heap_alloc_new _ _)]; rfl) rfl (by omega) (by rw [List.length_map]; omega) H7.out.bel.size ?_; intro g13 c13 W8 ho13 hc13 hg13)
        obtain ⟨h8, k8⟩ := H7.out.app13 ho13 hc13 hg13
        have hTj : T' j := H6.out.core.base j (by simp)
        have hjl : j < W6.heap.size := (H6.out.core.lo j hTj).2
        have hql : q < W6.heap.size := (H6.out.kp q rfl).2.2.2.2.2
        have HT8 : Hid (W8.heap[j]? = W4.heap[j]? ∧ W8.heap[q]? = W4.heap[q]?) := ⟨((hc13.blk j (by simp; omega) (fun t e => (H7.out.a13 j e).1 hTj)).trans (heap_alloc_old _ _ hjl)).trans HT6.out.1, ((k8 q rfl).trans (heap_alloc_old _ _ hql)).trans HT6.out.2⟩
        simp only [List.length_map] at h8
        generalize Value.slice (some ⟨g13, 0, none⟩) (P.length + 1) c13 = s13 at h8 ⊢
        have H8 : Hid (St w W8 (i + 1) T' (fun x => x = q) (P ++ [j]) id' slots' (wrap64 (sum + S i)) (wrap64 (want + 1)) s12 s13 u14 (P.map ptr ++ [.pointer (some ⟨j, 0, none⟩)]) ((P.map fun k => .int .i64 (id k)) ++ [.int .i64 (I i)]) (P.map fun k => .int .i64 (slots k))) := h8
        have y1 : W8.cell? ⟨q, 1, none⟩ = some (.int .i64 (S i)) := (World.cell?_of_block (a := ⟨q, 1, none⟩) HT8.out.2).trans HY.out.2
        clear h8 k8 ho13 hc13 hg13 H6 H7 HT6 y0 hTj hjl hql
        have H9 : Hid (St w (W8.alloc (.cells #[.int .i64 (S i)] 2)) (i + 1) T' (fun x => x = q) (P ++ [j]) id' slots' (wrap64 (sum + S i)) (wrap64 (want + 1)) s12 s13 u14 (P.map ptr ++ [.pointer (some ⟨j, 0, none⟩)]) ((P.map fun k => .int .i64 (id k)) ++ [.int .i64 (I i)]) (P.map fun k => .int .i64 (slots k))) := H8.out.later ((Below.refl _ W8).alloc (Nat.le_refl _) _)
        go_upto_region 27 with (refine wpList_append_chg rfl _ _ 53 rfl w.heap.size 2 i2 (.int .i64 0) 8 Ybaz.underlying53 hi2 hz2 hzs2 hzb2 rfl u14 _ _ rfl H9.out.r14 ⟨W8.heap.size, 0, none⟩ 1 (.int .i64 (S i)) rfl (by rw [cell_of_row _ _ _ _ _ _ (heap_alloc_new _ _)]; rfl) rfl (by omega) (by rw [List.length_map]; omega) H9.out.bel.size ?_; intro g14 c14 W10 ho14 hc14 hg14)
        obtain ⟨h10, k10⟩ := H9.out.app14 ho14 hc14 hg14
        have hTj : T' j := H8.out.core.base j (by simp)
        have hjl : j < W8.heap.size := (H8.out.core.lo j hTj).2
        have ht10 : W10.heap[j]? = W4.heap[j]? := ((hc14.blk j (by simp; omega) (fun t e => (H9.out.a14 j e).1 hTj)).trans (heap_alloc_old _ _ hjl)).trans HT8.out.1
        simp only [List.length_map] at h10
        generalize Value.slice (some ⟨g14, 0, none⟩) (P.length + 1) c14 = s14 at h10 ⊢
        have H10 : Hid (St w W10 (i + 1) T' (fun x => x = q) (P ++ [j]) id' slots' (wrap64 (sum + S i)) (wrap64 (want + 1)) s12 s13 s14 (P.map ptr ++ [.pointer (some ⟨j, 0, none⟩)]) ((P.map fun k => .int .i64 (id k)) ++ [.int .i64 (I i)]) ((P.map fun k => .int .i64 (slots k)) ++ [.int .i64 (S i)])) := h10
        have l0 : W10.cell? ⟨j, 0, none⟩ = some (.pointer (some ⟨p0, 0, none⟩)) := (World.cell?_of_block (a := ⟨j, 0, none⟩) ht10).trans HL.out.1
        have l1 : W10.cell? ⟨j, 1, none⟩ = some (.pointer (some ⟨p1, 0, none⟩)) := (World.cell?_of_block (a := ⟨j, 1, none⟩) ht10).trans HL.out.2.1
        have l2 : W10.cell? ⟨j, 2, none⟩ = some (.pointer none) := (World.cell?_of_block (a := ⟨j, 2, none⟩) ht10).trans HL.out.2.2
        have l3 : W10.cell? ⟨j, 3, none⟩ = some (.int .u8 1) := h10.core.st j (by simp)
        have m3 : W10.cell? ⟨w.heap.size + 1 + 1 + 1, 3, none⟩ = some (.int .i64 (wrap64 (sum + S i))) := h10.core.c3
        have m24 : W10.cell? ⟨w.heap.size + 1 + 1 + 1 + 1, 24, none⟩ = some (.int .i64 (wrap64 (want + 1))) := h10.core.c24
        clear h10 k10 ho14 hc14 hg14 H8 H9 HT8 y1 hTj hjl ht10 hi2 hz2 hzs2 hzb2 HS4 HL HY
        go_wp2
        go_roundw
        case rel =>
          have eL12 : (P ++ [j]).map ptr = P.map ptr ++ [.pointer (some ⟨j, 0, none⟩)] := by rw [List.map_append]; rfl
          have eL13 : ((P ++ [j]).map fun k => Value.int .i64 (id' k)) = (P.map fun k => .int .i64 (id k)) ++ [.int .i64 (I i)] := by
            rw [List.map_append, List.map_congr_left (fun k hk => by rw [(HE.out.2.2 k hk).1]), List.map_singleton, HE.out.1]
          have eL14 : ((P ++ [j]).map fun k => Value.int .i64 (slots' k)) = (P.map fun k => .int .i64 (slots k)) ++ [.int .i64 (S i)] := by
            rw [List.map_append, List.map_congr_left (fun k hk => by rw [(HE.out.2.2 k hk).2]), List.map_singleton, HE.out.2.1]
          refine ⟨i + 1, T', P ++ [j], id', slots', _, _, by omega, by go_num, rfl, rfl, by simp; omega, ?_⟩
          rw [eL12, eL13, eL14]
          exact H10.out.drop
        case measure => simp [intOf]; omega
    · obtain rfl : i = N := by omega
      have r12 : W.ownsRow w.heap.size 23 1 u12 P.length (P.map ptr) := by simpa using HSt.out.r12
      obtain ⟨-, ad12, cp12, rfl, hc12⟩ := own_slice r12
      have HC12 : Hid (∀ k x, (P.map ptr)[k]? = some x → ∃ g, ad12 = some ⟨g, 0, none⟩ ∧ g < W.heap.size ∧ W.cell? ⟨g, k, none⟩ = some x) := hc12
      have hPN : P.length ≤ 65536 := by omega
      clear hc12 r12 HI HR HCJ HS51
      go_wp2
      go_loop [141] (fun v => ∃ t : Nat, t ≤ P.length ∧ v = .int .i64 t) (fun v => P.length - (intOf v).toNat)
      case atStart => exact ⟨0, Nat.zero_le _, rfl⟩
      case round =>
        obtain ⟨t, ht, rfl⟩ := hrel
        by_cases htl : t < P.length
        · obtain ⟨g, rfl, -, hc⟩ := HC12.out t (ptr P[t]) (by rw [List.getElem?_map, List.getElem?_eq_getElem htl]; rfl)
          have hst := HSt.out.core.st P[t] (List.getElem_mem htl)
          unfold ptr at hc
          generalize P[t] = x at hc hst
          go_wp2
          go_round
          case rel => exact ⟨t + 1, by omega, by go_num⟩
          case measure => simp [intOf]; omega
        · obtain rfl : t = P.length := by omega
          obtain ⟨xs, ys, ws, hE⟩ := HSt.out.core.ends
          have n1 : W.cell? ⟨w.heap.size + 1 + 1 + 1, 21, none⟩ = some (.int .i64 P.length) := hE.n1
          have n2 : W.cell? ⟨w.heap.size + 1 + 1, 4, none⟩ = some (.int .i64 P.length) := hE.n2
          have z1 : W.cell? ⟨w.heap.size + 1 + 1 + 1, 22, none⟩ = some (.int .i64 0) := hE.z1
          have z2 : W.cell? ⟨w.heap.size + 1 + 1, 5, none⟩ = some (.int .i64 0) := hE.z2
          have c25 : W.cell? ⟨w.heap.size + 1 + 1 + 1, 25, none⟩ = some (.pointer (some ⟨w.heap.size + 1 + 1, 0, none⟩)) := hE.c25
          have c4 : W.cell? ⟨w.heap.size + 1 + 1 + 1, 4, none⟩ = some (.int .i64 0) := HSt.out.core.c4
          have c27 : W.cell? ⟨w.heap.size + 1 + 1 + 1, 27, none⟩ = some (.slice none 0 0) := HSt.out.core.c27
          have q37 := neq37 ⟨w.heap.size + 1 + 1, 0, none⟩
          have q47 := neq47
          clear hE
          go_upto_region 42 with fail
          clear n1 n2 z1 z2 c25 c4 c27 q37 q47
          have r13 : W.ownsRow w.heap.size 2 1 u13 (P.map id).length ((P.map id).map (Value.int .i64)) := by
            have := HSt.out.r13
            rw [List.length_map] at this ⊢
            rw [List.map_map]; exact this
          have HSORT : Hid (Calls Ybaz.prog 7 #[u13] W _) := sort7_own (P.map id) r13 (by rw [List.length_map]; omega)
          clear r13
          go_upto_region 43 with (go_at_call 7; fail)
          refine HSORT.out.mono ?_
          rintro e W2 ⟨rfl, ho2, hc2⟩
          have h2 := HSt.out.put13 (by rw [List.length_map]; exact ho2) hc2
          have H2 : Hid (St w W2 i T (fun _ => False) P id slots sum want (.slice ad12 P.length cp12) u13 u14 (P.map ptr) (((P.map id).mergeSort fun x y => decide (x ≤ y)).map (Value.int .i64)) (P.map fun k => .int .i64 (slots k))) := h2
          obtain ⟨xs, ys, ws, hE⟩ := h2.core.ends
          have HE2 : Hid (Ends W2 (w.heap.size + 1 + 1 + 1) (w.heap.size + 1 + 1) P xs ys ws id slots) := hE
          clear h2 ho2 hc2 hE HSORT HSt HC12
          go_upto_region 44 with (go_at_call 9; fail)
          refine (ids9 _ 17 xs id slots W2 HE2.out.q1 HE2.out.i1 (by rw [HE2.out.l1]; omega)).mono ?_
          rintro e W3 ⟨v3, rfl, ho3, hb3⟩
          have h3 := H2.out.later hb3
          have heq : Calls Ybaz.prog 8 #[v3, u13] W3 fun e w' => e = .returned (.bool true) ∧ ∃ q, w' = W3.drewN q := by
            refine equal8_own (b1 := W2.heap.size) (b2 := w.heap.size) (xs.map id) ?_ ?_ (by rw [List.length_map, HE2.out.l1]; omega)
            · rw [List.length_map, List.map_map]; exact ho3
            · have := h3.r13
              rw [List.length_map, HE2.out.s1] at this; exact this
          have HEQ : Hid (Calls Ybaz.prog 8 #[v3, u13] W3 fun e w' => e = .returned (.bool true) ∧ ∃ q, w' = W3.drewN q) := heq
          have H3 : Hid (St w W3 i T (fun _ => False) P id slots sum want (.slice ad12 P.length cp12) u13 u14 (P.map ptr) (((P.map id).mergeSort fun x y => decide (x ≤ y)).map (Value.int .i64)) (P.map fun k => .int .i64 (slots k))) := h3
          clear h3 heq ho3 hb3 H2 HE2
          go_upto_region 44 with fail
          refine HEQ.out.mono ?_
          rintro e W4' ⟨rfl, q4, rfl⟩
          have h4 := H3.out.later (W' := W3.drewN q4) ⟨rfl, rfl, rfl, Nat.le_refl _, fun _ _ => rfl⟩
          generalize W3.drewN q4 = W4 at h4 ⊢
          clear HEQ H3 q4 xs ys ws
          obtain ⟨xs, ys, ws, hE⟩ := h4.core.ends
          have H4 : Hid (St w W4 i T (fun _ => False) P id slots sum want (.slice ad12 P.length cp12) u13 u14 (P.map ptr) (((P.map id).mergeSort fun x y => decide (x ≤ y)).map (Value.int .i64)) (P.map fun k => .int .i64 (slots k))) := h4
          have HE4 : Hid (Ends W4 (w.heap.size + 1 + 1 + 1) (w.heap.size + 1 + 1) P xs ys ws id slots) := hE
          have c25 : W4.cell? ⟨w.heap.size + 1 + 1 + 1, 25, none⟩ = some (.pointer (some ⟨w.heap.size + 1 + 1, 0, none⟩)) := hE.c25
          clear h4 hE
          go_upto_region 44 with fail
          refine (ids9 _ 0 ys id slots W4 HE4.out.q2 HE4.out.i2 (by rw [HE4.out.l2]; omega)).mono ?_
          rintro e W5 ⟨v5, rfl, ho5, hb5⟩
          have h5 := H4.out.later hb5
          have heq : Calls Ybaz.prog 8 #[v5, u13] W5 fun e w' => e = .returned (.bool true) ∧ ∃ q, w' = W5.drewN q := by
            refine equal8_own (b1 := W4.heap.size) (b2 := w.heap.size) (ys.map id) ?_ ?_ (by rw [List.length_map, HE4.out.l2]; omega)
            · rw [List.length_map, List.map_map]; exact ho5
            · have := h5.r13
              rw [List.length_map, HE4.out.s2] at this; exact this
          have HEQ : Hid (Calls Ybaz.prog 8 #[v5, u13] W5 fun e w' => e = .returned (.bool true) ∧ ∃ q, w' = W5.drewN q) := heq
          have H5 : Hid (St w W5 i T (fun _ => False) P id slots sum want (.slice ad12 P.length cp12) u13 u14 (P.map ptr) (((P.map id).mergeSort fun x y => decide (x ≤ y)).map (Value.int .i64)) (P.map fun k => .int .i64 (slots k))) := h5
          clear h5 heq ho5 hb5 H4 HE4 c25
          go_upto_region 44 with fail
          refine HEQ.out.mono ?_
          rintro e W6' ⟨rfl, q6, rfl⟩
          have h6 := H5.out.later (W' := W5.drewN q6) ⟨rfl, rfl, rfl, Nat.le_refl _, fun _ _ => rfl⟩
          generalize W5.drewN q6 = W6 at h6 ⊢
          have r14 : W6.ownsRow w.heap.size 2 1 u14 (P.map slots).length ((P.map slots).map (Value.int .i64)) := by
            have := h6.r14
            rw [List.length_map] at this ⊢
            rw [List.map_map]; exact this
          have HSORT : Hid (Calls Ybaz.prog 7 #[u14] W6 _) := sort7_own (P.map slots) r14 (by rw [List.length_map]; omega)
          have H6 : Hid (St w W6 i T (fun _ => False) P id slots sum want (.slice ad12 P.length cp12) u13 u14 (P.map ptr) (((P.map id).mergeSort fun x y => decide (x ≤ y)).map (Value.int .i64)) (P.map fun k => .int .i64 (slots k))) := h6
          clear HEQ H5 q6 xs ys ws r14 h6
          go_upto_region 46 with (go_at_call 7; fail)
          refine HSORT.out.mono ?_
          rintro e W7 ⟨rfl, ho7, hc7⟩
          have h7 := H6.out.put14 (by rw [List.length_map]; exact ho7) hc7
          obtain ⟨xs, ys, ws, hE⟩ := h7.core.ends
          have hlen : (flatW ws).length = P.length := by rw [← hE.sw, List.length_mergeSort, List.length_map]
          have r14 := h7.r14
          rw [List.length_map, hE.sw] at r14
          obtain ⟨-, ad14, cp14, rfl, hr14⟩ := own_slice r14
          obtain ⟨adw, cw, c26, hwid⟩ := hE.wid
          have HBEL : Hid (Below w.heap.size w W7) := h7.bel
          have HR14 : Hid (∀ k x, ((flatW ws).map (Value.int .i64))[k]? = some x → ∃ g, ad14 = some ⟨g, 0, none⟩ ∧ g < W7.heap.size ∧ W7.cell? ⟨g, k, none⟩ = some x) := hr14
          have HWID : Hid (∀ k p, ws[k]? = some p → ∃ g, adw = some ⟨g, 0, none⟩ ∧ g < W7.heap.size ∧ W7.cell? ⟨g, k * 2, none⟩ = some (.int .i64 p.1) ∧ W7.cell? ⟨g, k * 2 + 1, none⟩ = some (.int .i64 p.2)) := hwid
          have HASC : Hid (ws.Pairwise (fun a b => a.1 < b.1)) := hE.asc
          have HCNT : Hid (∀ p ∈ ws, 0 < p.2 ∧ p.2 ≤ P.length) := hE.cnt
          have hbig : ws.length ≤ P.length := hE.big
          have HSB : Hid (w.heap.size + 1 + 1 + 1 < W7.heap.size ∧ W7.cell? ⟨w.heap.size + 1 + 1 + 1, 26, none⟩ = some (.slice adw ws.length cw)) := ⟨(h7.core.lo _ (h7.core.base _ (Or.inl rfl))).2, c26⟩
          clear h7 ho7 hc7 HSORT H6 r14 hr14 hwid hE c26 xs ys
          go_wp2
          have HLEN : Hid ((flatW ws).length = P.length) := hlen
          go_loopw [20, 21] (fun v20 v21 Wx => ∃ k : Nat, k ≤ ws.length ∧ v20 = .int .i64 k ∧ v21 = .int .i64 (offW ws k : Nat) ∧ Below W7.heap.size W7 Wx) (fun v20 _ _ => ws.length - (intOf v20).toNat)
          case atStart => exact ⟨0, Nat.zero_le _, rfl, by rw [offW_zero]; rfl, Below.refl _ _⟩
          case round =>
            rename World => Wx
            obtain ⟨k, hk, rfl, rfl, hBx⟩ := hrel
            have HBX : Hid (Below W7.heap.size W7 Wx) := hBx
            clear hBx
            by_cases hkl : k < ws.length
            · obtain ⟨p, hp⟩ : ∃ p, ws[k]? = some p := ⟨_, List.getElem?_eq_getElem hkl⟩
              have hpc := HCNT.out p (List.mem_of_getElem? hp)
              have hs := offW_succ hp
              have hle := offW_le (ws := ws) (k := k + 1) (by omega)
              have HF0 : Hid ((flatW ws)[offW ws k]? = some p.1) := flat_at hp (Nat.le_refl _) (by omega)
              obtain ⟨g14, rfl, hg14, cI⟩ := HR14.out (offW ws k) (.int .i64 p.1) (by rw [List.getElem?_map, HF0.out]; rfl)
              obtain ⟨gw, rfl, hgw, cw0, cw1⟩ := HWID.out k p hp
              have HP : Hid (ws[k]? = some p) := hp
              have HCS : Hid (g14 < W7.heap.size ∧ W7.cell? ⟨g14, offW ws k, none⟩ = some (.int .i64 p.1) ∧ gw < W7.heap.size ∧ W7.cell? ⟨gw, k * 2, none⟩ = some (.int .i64 p.1) ∧ W7.cell? ⟨gw, k * 2 + 1, none⟩ = some (.int .i64 p.2)) := ⟨hg14, cI, hgw, cw0, cw1⟩
              have hfl : offW ws k < P.length := by omega
              have hle1 : offW ws k ≤ offW ws (k + 1) := by omega
              have hle2 : offW ws (k + 1) ≤ P.length := by omega
              have HSS : Hid (offW ws (k + 1) = offW ws k + p.2.toNat) := hs
              clear hs hle hp hg14 cI hgw cw0 cw1
              go_wp2
              go_loopw [22] (fun v22 Wy => ∃ e : Nat, offW ws k ≤ e ∧ e ≤ offW ws (k + 1) ∧ v22 = .int .i64 e ∧ Below W7.heap.size W7 Wy) (fun v22 _ => offW ws (k + 1) - (intOf v22).toNat)
              case atStart => exact ⟨offW ws k, Nat.le_refl _, by omega, rfl, HBX.out⟩
              case round =>
                rename World => Wy
                obtain ⟨e, he1, he2, rfl, hBy⟩ := hrel
                have HBY : Hid (Below W7.heap.size W7 Wy) := hBy
                have dI : Wy.cell? ⟨g14, offW ws k, none⟩ = some (.int .i64 p.1) := (hBy.cell (p := ⟨g14, offW ws k, none⟩) HCS.out.1).trans HCS.out.2.1
                clear hBy
                have q0 : (0 : Int) ≤ (offW ws k : Int) := by omega
                have q1 : (offW ws k : Int) < (P.length : Int) := by omega
                have q2 : (0 : Int) ≤ (e : Int) := by omega
                by_cases hee : e < offW ws (k + 1)
                · have fE := flat_at HP.out he1 hee
                  obtain ⟨g, hg, -, cE⟩ := HR14.out e (.int .i64 p.1) (by rw [List.getElem?_map, fE]; rfl)
                  obtain rfl : g14 = g := by simpa using hg
                  have dE : Wy.cell? ⟨g14, e, none⟩ = some (.int .i64 p.1) := (HBY.out.cell (p := ⟨g14, e, none⟩) HCS.out.1).trans cE
                  have q3 : (e : Int) < (P.length : Int) := by omega
                  clear fE cE hg
                  go_wp2
                  go_quiet (fail)
                  go_wp2
                  go_roundw
                  case rel => exact ⟨e + 1, by omega, by omega, by go_num, below_more HBY.out _⟩
                  case measure => simp [intOf]; omega
                · obtain rfl : e = offW ws (k + 1) := by omega
                  rcases edge HP.out HASC.out (fun p hp => (HCNT.out p hp).1) with hend | ⟨hlt2, v, fv, hne⟩
                  · have hd : decide (offW ws (k + 1) < P.length) = false := by rw [hend, HLEN.out]; simp
                    clear hend
                    go_wp2
                    go_quiet (fail)
                    clear hd
                    have HBZ : Hid (Below W7.heap.size W7 (Wy.drewN nq)) := below_more HBY.out nq
                    generalize Wy.drewN nq = Wz at HBZ ⊢
                    have e26 : Wz.cell? ⟨w.heap.size + 1 + 1 + 1, 26, none⟩ = some (.slice (some ⟨gw, 0, none⟩) ws.length cw) := (HBZ.out.cell (p := ⟨w.heap.size + 1 + 1 + 1, 26, none⟩) HSB.out.1).trans HSB.out.2
                    have ew0 : Wz.cell? ⟨gw, k * 2, none⟩ = some (.int .i64 p.1) := (HBZ.out.cell (p := ⟨gw, k * 2, none⟩) HCS.out.2.2.1).trans HCS.out.2.2.2.1
                    have ew1 : Wz.cell? ⟨gw, k * 2 + 1, none⟩ = some (.int .i64 p.2) := (HBZ.out.cell (p := ⟨gw, k * 2 + 1, none⟩) HCS.out.2.2.1).trans HCS.out.2.2.2.2
                    have eI : Wz.cell? ⟨g14, offW ws k, none⟩ = some (.int .i64 p.1) := (HBZ.out.cell (p := ⟨g14, offW ws k, none⟩) HCS.out.1).trans HCS.out.2.1
                    have r1 : decide (ws.length ≤ k) = false := by simp; omega
                    have r2 : (0 : Int) ≤ (k : Int) := by omega
                    have r3 : (k : Int) < (ws.length : Int) := by omega
                    have r4 : (offW ws (k + 1) : Int) - (offW ws k : Int) = p.2 := by have := HSS.out; omega
                    clear dI
                    go_wp2
                    go_quiet (fail)
                    go_wp2
                    go_roundw
                    case rel => exact ⟨k + 1, by omega, by go_num, rfl, below_more HBZ.out _⟩
                    case measure => simp [intOf]; omega
                  · have hd : decide (offW ws (k + 1) < P.length) = true := by rw [HLEN.out] at hlt2; simpa using hlt2
                    obtain ⟨g, hg, -, cE⟩ := HR14.out (offW ws (k + 1)) (.int .i64 v) (by rw [List.getElem?_map, fv]; rfl)
                    obtain rfl : g14 = g := by simpa using hg
                    have dE : Wy.cell? ⟨g14, offW ws (k + 1), none⟩ = some (.int .i64 v) := (HBY.out.cell (p := ⟨g14, offW ws (k + 1), none⟩) HCS.out.1).trans cE
                    have q3 : (offW ws (k + 1) : Int) < (P.length : Int) := by simpa using hd
                    have q4 : (v == p.1) = false := by simpa using hne
                    clear fv cE hg hlt2
                    go_wp2
                    go_quiet (fail)
                    clear hd dE q3 q4 hne
                    have HBZ : Hid (Below W7.heap.size W7 (Wy.drewN nq)) := below_more HBY.out nq
                    generalize Wy.drewN nq = Wz at HBZ ⊢
                    have e26 : Wz.cell? ⟨w.heap.size + 1 + 1 + 1, 26, none⟩ = some (.slice (some ⟨gw, 0, none⟩) ws.length cw) := (HBZ.out.cell (p := ⟨w.heap.size + 1 + 1 + 1, 26, none⟩) HSB.out.1).trans HSB.out.2
                    have ew0 : Wz.cell? ⟨gw, k * 2, none⟩ = some (.int .i64 p.1) := (HBZ.out.cell (p := ⟨gw, k * 2, none⟩) HCS.out.2.2.1).trans HCS.out.2.2.2.1
                    have ew1 : Wz.cell? ⟨gw, k * 2 + 1, none⟩ = some (.int .i64 p.2) := (HBZ.out.cell (p := ⟨gw, k * 2 + 1, none⟩) HCS.out.2.2.1).trans HCS.out.2.2.2.2
                    have eI : Wz.cell? ⟨g14, offW ws k, none⟩ = some (.int .i64 p.1) := (HBZ.out.cell (p := ⟨g14, offW ws k, none⟩) HCS.out.1).trans HCS.out.2.1
                    have r1 : decide (ws.length ≤ k) = false := by simp; omega
                    have r2 : (0 : Int) ≤ (k : Int) := by omega
                    have r3 : (k : Int) < (ws.length : Int) := by omega
                    have r4 : (offW ws (k + 1) : Int) - (offW ws k : Int) = p.2 := by have := HSS.out; omega
                    clear dI
                    go_wp2
                    go_quiet (fail)
                    go_wp2
                    go_roundw
                    case rel => exact ⟨k + 1, by omega, by go_num, rfl, below_more HBZ.out _⟩
                    case measure => simp [intOf]; omega
            · obtain rfl : k = ws.length := by omega
              have HBX' := HBX
              have e26 : Wx.cell? ⟨w.heap.size + 1 + 1 + 1, 26, none⟩ = some (.slice adw ws.length cw) := (HBX.out.cell (p := ⟨w.heap.size + 1 + 1 + 1, 26, none⟩) HSB.out.1).trans HSB.out.2
              have hoff : Hid (offW ws ws.length = P.length) := (offW_all ws).trans HLEN.out
              have hd : decide (offW ws ws.length < P.length) = false := by rw [hoff.out]; simp
              go_wp2
              go_ret
              exact ⟨rfl, HBEL.out.trans (HBX.out.mono HBEL.out.size)⟩

set_option maxRecDepth 100000 in
theorem law_big (start : Int) (a : Option Addr) (N cap : Nat) (w : World) (hn : 65536 < (N : Int)) (_hm : N ≤ maxLen) :
    Calls Ybaz.prog 3 #[.int .i64 start, .slice a N cap] w fun e w' => e = .returned (.bool true) ∧ Below w.heap.size w w' := by
  unfold maxLen at _hm
  go_enter Ybaz.func3, Ybaz.ntmps3
  go_wp2
  go_ret
  exact ⟨rfl, Below.refl _ _⟩
end Go.Proofs.YbulkdxqmGreatFmt
