/- LawS6213CWhole: jobs: an iterator that ranges over an iterator. -/
import Derived.Test.YbulkdxqmGreatFmtRuns
import Derived.Test.YbulkdxqmGreatFmtRange
import Derived.Shelf.RegionOpen
namespace Go.Proofs.YbulkdxqmGreatFmt
set_option linter.unusedVariables false
set_option linter.unusedSimpArgs false
open Go Go.RowKit Go.Shelf
attribute [local go_sem] Oper.semAt_some

theorem runs29 (qb qo : Nat) (w : World) : Calls Ybaz.prog 29 #[.pointer (some ⟨qb, qo, none⟩), .func (.func 30) #[] #[]] w fun e w' => e = .returned (.func (.func 52) #[] #[.pointer (some ⟨w.heap.size, 0, none⟩), .pointer (some ⟨w.heap.size + 1, 0, none⟩)]) ∧ w' = (w.alloc (.cells #[.pointer (some ⟨qb, qo, none⟩)] 37)).alloc (.cells #[.func (.func 30) #[] #[]] 105) := by
  go_enter Ybaz.func29, Ybaz.ntmps29
  go_wp2
  go_ret
  exact ⟨rfl, rfl⟩
theorem jobs14 (qb qo : Nat) (w : World) : Calls Ybaz.prog 14 #[.pointer (some ⟨qb, qo, none⟩)] w fun e w' => e = .returned (.func (.func 28) #[] #[.pointer (some ⟨w.heap.size, 0, none⟩)]) ∧ w' = w.alloc (.cells #[.pointer (some ⟨qb, qo, none⟩)] 37) := by
  go_enter Ybaz.func14, Ybaz.ntmps14
  go_wp2
  go_ret
  exact ⟨rfl, rfl⟩

/-- A round's word: what lies below n₀ lies; so does what is not the body's own, and whatever is no cells but its own loop's record. -/
structure KpO (L n₀ : Nat) (Mine : Nat → World → Prop) (W W' : World) : Prop where
  bel : Below n₀ W W'
  cel : ∀ Z T t, W.heap[Z]? = some (.cells T t (0, 0)) → ¬ Mine Z W → W'.heap[Z]? = some (.cells T t (0, 0)) ∧ ¬ Mine Z W'
  oth : ∀ k o, k ≠ L → W.heap[k]? = some o → o.isCells = false → W'.heap[k]? = some o

set_option maxRecDepth 100000 in
set_option maxHeartbeats 4000000 in
theorem jobs28 (L1 n₀ qb qo qB : Nat) (xs : List Nat) (slots : Nat → Int) (Mine : Nat → World → Prop) (J : List Nat → World → Prop) (W : World)
    (hM : ∀ pre Z W W' row, J pre W → ¬ Mine Z W → W.grownBy W' row → (∀ r, row = some r → ∃ o : Obj, W.heap[r]? = some o ∧ o.isCells = false) → ¬ Mine Z W') (hMn : ∀ pre W Z, J pre W → W.heap.size ≤ Z → ¬ Mine Z W) (hL1 : L1 < W.heap.size)
    (hJo : OwnFrom W.heap.size J) (hY : ∀ m pre x W1, J pre W1 → pre ++ [x] <+: xs → YieldAt Fence.wide m Ybaz.prog L1 #[.pointer (some ⟨x, 0, none⟩)] W1 fun e W' => e = .returned (.bool true) ∧ J (pre ++ [x]) W' ∧ KpO L1 n₀ Mine W1 W')
    (hn₀ : n₀ ≤ W.heap.size) (hq : QRead W n₀ qb qo xs slots) (hqB : W.cell? ⟨qB, 0, none⟩ = some (.pointer (some ⟨qb, qo, none⟩))) (hJ : J [] W) :
    Calls Ybaz.prog 28 #[.func (.yield L1) #[] #[], .pointer (some ⟨qB, 0, none⟩)] W fun e W' => (∃ v, e = .returned v) ∧ J xs W' := by
  obtain ⟨w1, hw1⟩ : ∃ w1, w1 = W.alloc (.cells #[.func (.yield L1) #[] #[]] 127) := ⟨_, rfl⟩
  obtain ⟨Y0, hY0⟩ : ∃ Y0, Y0 = W.heap.size := ⟨_, rfl⟩
  have hz1 : w1.heap.size = Y0 + 1 := by rw [hw1, hY0]; simp
  obtain ⟨w3, hw3⟩ : ∃ w3, w3 = (w1.alloc (.cells #[.pointer (some ⟨qb, qo, none⟩)] 37)).alloc (.cells #[.func (.func 30) #[] #[]] 105) := ⟨_, rfl⟩
  have hz3 : w3.heap.size = Y0 + 3 := by rw [hw3]; simp [hz1]
  have hY3 : w3.heap[Y0]? = some (.cells #[.func (.yield L1) #[] #[]] 127 (0, 0)) := by
    rw [hw3, Below.heap_alloc _ _ _ (by simp [hz1]; omega), Below.heap_alloc _ _ _ (by omega), hw1, hY0]; exact heap_alloc_new _ _
  have hq1 : w3.heap[Y0 + 1]? = some (.cells #[.pointer (some ⟨qb, qo, none⟩)] 37 (0, 0)) := by
    rw [hw3, Below.heap_alloc _ _ _ (by simp [hz1]), ← hz1]; exact heap_alloc_new _ _
  have hp1 : w3.heap[Y0 + 2]? = some (.cells #[.func (.func 30) #[] #[]] 105 (0, 0)) := by
    rw [hw3]
    have := heap_alloc_new (w1.alloc (.cells #[.pointer (some ⟨qb, qo, none⟩)] 37)) (.cells #[.func (.func 30) #[] #[]] 105)
    rwa [World.size_alloc, hz1] at this
  have hB3 : Below W.heap.size W w3 := by
    rw [hw3, hw1]; exact (((Below.refl _ W).alloc (Nat.le_refl _) _).alloc (by simp) _).alloc (by simp; omega) _
  have hJ3 : J [] w3 := by rw [hw3, hw1]; exact hJo.alloc _ (hJo.alloc _ (hJo.alloc _ hJ))
  have hM3 : ¬ Mine Y0 w3 := by
    have h0 := hMn [] W Y0 hJ (by omega)
    rw [hw3, hw1]
    exact hM [] _ _ _ none (hJo.alloc _ (hJo.alloc _ hJ)) (hM [] _ _ _ none (hJo.alloc _ hJ) (hM [] _ _ _ none hJ h0 (World.grownBy_alloc _ _ _) (fun r e => by cases e)) (World.grownBy_alloc _ _ _) (fun r e => by cases e)) (World.grownBy_alloc _ _ _) (fun r e => by cases e)
  have hq3 := hq.below (W' := w3) (n₀ := n₀) ⟨hB3.os, hB3.tape, hB3.output, hB3.size, fun k hk => hB3.block k (by omega)⟩
  have qb1 := (World.cell?_of_block (a := ⟨qB, 0, none⟩) (hB3.block qB (World.block_lt_of_cell? _ _ hqB))).trans hqB
  have hqBw : qB < W.heap.size := World.block_lt_of_cell? _ _ hqB
  have qBc : w1.cell? ⟨qB, 0, none⟩ = some (.pointer (some ⟨qb, qo, none⟩)) := by
    rw [hw1]
    exact (((Below.refl W.heap.size W).alloc (Nat.le_refl _) _).cell (p := ⟨qB, 0, none⟩) hqBw).trans hqB
  have HRN : Hid (CallsIn Fence.wide 9 Ybaz.prog 29 #[.pointer (some ⟨qb, qo, none⟩), .func (.func 30) #[] #[]] (W.alloc (.cells #[.func (.yield L1) #[] #[]] 127)) fun e w' => e = .returned (.func (.func 52) #[] #[.pointer (some ⟨Y0 + 1, 0, none⟩), .pointer (some ⟨Y0 + 2, 0, none⟩)]) ∧ w' = w3) := by
    have := (callsIn_wide (n := 9)).2 (runs29 qb qo w1)
    rw [hz1, ← hw3, hw1] at this
    exact this
  have HALL : Hid (OwnFrom W.heap.size J ∧ QRead w3 n₀ qb qo xs slots ∧ J [] w3 ∧ ¬ Mine Y0 w3) := ⟨hJo, hq3, hJ3, hM3⟩
  have HMM : Hid ((∀ pre Z W W' row, J pre W → ¬ Mine Z W → W.grownBy W' row → (∀ r, row = some r → ∃ o : Obj, W.heap[r]? = some o ∧ o.isCells = false) → ¬ Mine Z W') ∧ (∀ pre W Z, J pre W → W.heap.size ≤ Z → ¬ Mine Z W)) := ⟨hM, hMn⟩
  have HY : Hid (∀ m pre x W1, J pre W1 → pre ++ [x] <+: xs → YieldAt Fence.wide m Ybaz.prog L1 #[.pointer (some ⟨x, 0, none⟩)] W1 fun e W' => e = .returned (.bool true) ∧ J (pre ++ [x]) W' ∧ KpO L1 n₀ Mine W1 W') := hY
  have HC : Hid (w3.heap[Y0]? = some (.cells #[.func (.yield L1) #[] #[]] 127 (0, 0)) ∧ w3.heap[Y0 + 1]? = some (.cells #[.pointer (some ⟨qb, qo, none⟩)] 37 (0, 0)) ∧ w3.heap[Y0 + 2]? = some (.cells #[.func (.func 30) #[] #[]] 105 (0, 0))) := ⟨hY3, hq1, hp1⟩
  have hdd : ∀ k : Nat, (Fence.wide.depth.isSome = true → 1 ≤ k) := fun k h => by cases h
  have h28 : Fence.wide.fn 28 := trivial
  have h29 : Fence.wide.fn 29 := trivial
  have h52 : Fence.wide.fn 52 := trivial
  have HZ : Hid (w3.heap.size = Y0 + 3 ∧ Y0 = W.heap.size ∧ n₀ ≤ Y0 ∧ L1 < Y0) := ⟨hz3, hY0, by omega, by omega⟩
  rw [hw1] at qBc
  clear hJo hq3 hJ3 hM3 hM hMn hY hY3 hq1 hp1 hq qb1 hB3 hJ hz1 hz3 hw3 hw1 hqB
  subst hY0
  refine (callsIn_wide (n := 10)).1 ?_
  refine callsIn_of_wp_marks Ybaz.func28 rfl h28 ?_ rfl
  simp only [Ybaz.ntmps28, List.size_toArray, List.length_cons, List.length_nil, Nat.reduceAdd, Nat.reduceSub, Array.replicate_succ, Array.replicate_zero, List.push_toArray, List.append_toArray, List.nil_append, List.cons_append]
  gi_wp2_with ((try refine ⟨hdd _, ?_⟩); gi_at_call 29; refine HRN.out.mono ?_; rintro e w4 ⟨rfl, hw⟩; obtain rfl : w3 = w4 := hw.symm)
  obtain ⟨Y0, hY0⟩ : ∃ Y0, Y0 = W.heap.size := ⟨_, rfl⟩
  rw [← hY0]
  rw [← hY0] at HC HZ HALL
  have HY00 : Hid (Y0 = W.heap.size) := hY0
  have hz3 := HZ.out.1
  have hz4 := HZ.out.2.2.1
  have hz5 := HZ.out.2.2.2
  obtain ⟨hJo, hq3, hJ3, hM3⟩ := HALL.out
  clear hY0
  have ownI : OwnFrom w3.heap.size (fun pre W' => J pre W' ∧ W'.heap[Y0]? = some (.cells #[.func (.yield L1) #[] #[]] 127 (0, 0)) ∧ ¬ Mine Y0 W') := fun s A B row hs hg hr => by
    refine ⟨hJo s A B row hs.1 hg (fun r e => ⟨by have := (hr r e).1; omega, (hr r e).2⟩), ?_, HMM.out.1 _ _ _ _ row hs.1 hs.2.2 hg (fun r e => (hr r e).2)⟩
    exact (hg.block Y0 (Array.getElem?_eq_some_iff.1 hs.2.1).1 (fun e => by have := (hr Y0 e.symm).1; omega)).trans hs.2.1
  refine range_all xs (gf := 52) (lb := #[.pointer (some ⟨Y0 + 1, 0, none⟩), .pointer (some ⟨Y0 + 2, 0, none⟩)]) rfl (enters_of Ybaz.func52 (by kernel_rfl) rfl) (fun x => #[runOf slots x]) (fun _ => rfl) (Below n₀) (fun h k => h.trans k)
    (fun W o o' h _ => ⟨rfl, rfl, rfl, by simp, fun k hk => World.putObj_heap_other (by omega)⟩)
    (fun pre W' => J pre W' ∧ W'.heap[Y0]? = some (.cells #[.func (.yield L1) #[] #[]] 127 (0, 0)) ∧ ¬ Mine Y0 W') ownI ⟨hJ3, HC.out.1, hM3⟩ ?seq ?round ?done
  case seq =>
    intro J2 W2 hB hsz2 hJI hJ2o hY2 hJ20
    have c1 : W2.cell? ⟨Y0 + 1, 0, none⟩ = some (.pointer (some ⟨qb, qo, none⟩)) := by rw [cell_of_row _ _ _ _ _ _ ((hB.block (Y0 + 1) (by omega)).trans HC.out.2.1)]; rfl
    have c2 : W2.cell? ⟨Y0 + 2, 0, none⟩ = some (.func (.func 30) #[] #[]) := by rw [cell_of_row _ _ _ _ _ _ ((hB.block (Y0 + 2) (by omega)).trans HC.out.2.2)]; rfl
    refine (runs52 _ n₀ qb qo (Y0 + 1) (Y0 + 2) xs slots J2 (fun pre W' h => hJ2o pre W' W'.drew none h ⟨rfl, rfl, rfl, Nat.le_refl _, fun _ _ _ => rfl⟩ (fun r e => by cases e)) hY2 W2 (hq3.below ⟨hB.os, hB.tape, hB.output, hB.size, fun k hk => hB.block k (by omega)⟩) c1 c2 hJ20).mono ?_
    rintro e W' ⟨h1, h2, _⟩
    exact ⟨h1, h2⟩
  case round =>
    rintro m l pre x W4 hl ⟨hJ4, hY4, hM4⟩ hx ⟨r, hr⟩
    have hlt : l < W4.heap.size := (Array.getElem?_eq_some_iff.1 hr).1
    simp only [runOf]
    gi_wp2
    have hYl : Y0 < W4.heap.size := (Array.getElem?_eq_some_iff.1 hY4).1
    have hnY : Y0 ≠ l := by omega
    obtain ⟨W5, hW5⟩ : ∃ W5, W5 = W4.alloc (.cells #[.pointer (some ⟨x, 0, none⟩), .int .i64 (slots x), .bool false] 132) := ⟨_, rfl⟩
    rw [← hW5]
    have hJ5 : J pre W5 := by rw [hW5]; exact hJo.alloc _ hJ4
    have hY5 : W5.heap[Y0]? = some (.cells #[.func (.yield L1) #[] #[]] 127 (0, 0)) := by rw [hW5]; exact (Below.heap_alloc _ _ _ hYl).trans hY4
    have hM5 : ¬ Mine Y0 W5 := by rw [hW5]; exact HMM.out.1 pre _ _ _ none hJ4 hM4 (World.grownBy_alloc _ _ _) (fun r e => by cases e)
    have hl5 : W5.heap[l]? = some (.loop r) := by rw [hW5]; exact (Below.heap_alloc _ _ _ hlt).trans hr
    have hr5 : W5.heap[W4.heap.size]? = some (.cells #[.pointer (some ⟨x, 0, none⟩), .int .i64 (slots x), .bool false] 132) := by rw [hW5]; exact heap_alloc_new _ _
    refine ⟨by rw [hW5]; exact (KeepsOthers.alloc _ _).from _, by rw [hW5]; exact (Below.refl n₀ W4).alloc (by omega) _, ⟨hJ5, hY5, hM5⟩, fun o' => ?_⟩
    obtain ⟨W6, hW6⟩ : ∃ W6, W6 = W5.putObj l o' := ⟨_, rfl⟩
    rw [← hW6]
    have hJ6 : J pre W6 := by rw [hW6]; exact hJo.putObj _ hJ5 (by omega) hl5 rfl
    have hY6 : W6.heap[Y0]? = some (.cells #[.func (.yield L1) #[] #[]] 127 (0, 0)) := by rw [hW6]; exact (World.putObj_heap_other hnY).trans hY5
    have hM6 : ¬ Mine Y0 W6 := by rw [hW6]; exact HMM.out.1 pre _ _ _ (some l) hJ5 hM5 (grownBy_putObj' W5 l o') (fun r' e => by cases e; exact ⟨_, hl5, rfl⟩)
    have hr6 : W6.heap[W4.heap.size]? = some (.cells #[.pointer (some ⟨x, 0, none⟩), .int .i64 (slots x), .bool false] 132) := by rw [hW6]; exact (World.putObj_heap_other (by omega)).trans hr5
    have y6 : W6.cell? ⟨Y0, 0, none⟩ = some (.func (.yield L1) #[] #[]) := by rw [cell_of_row _ _ _ _ _ _ hY6]; rfl
    have r6 : W6.cell? ⟨W4.heap.size, 0, none⟩ = some (.pointer (some ⟨x, 0, none⟩)) := by rw [cell_of_row _ _ _ _ _ _ hr6]; rfl
    obtain ⟨fn, tmps, assign, body, hy, hR⟩ := HY.out (m - 1) pre x W6 hJ6 hx
    have HF : Hid (W6.heap[Y0]? = some (.cells #[.func (.yield L1) #[] #[]] 127 (0, 0)) ∧ ¬ Mine Y0 W6) := ⟨hY6, hM6⟩
    have HR : Hid (RoundIn (Fence.wide.inRound l) (m - 1) Ybaz.prog L1 fn tmps assign body W6 fun e W' => e = .returned (.bool true) ∧ J (pre ++ [x]) W' ∧ KpO L1 n₀ Mine W6 W') := hR
    have hddl : ∀ k : Nat, ((Fence.wide.inRound l).depth.isSome = true → 1 ≤ k) := fun k h => by cases h
    clear hW5 hW6 hJ5 hY5 hM5 hl5 hr5 hJ6 hY6 hM6 hr6 hR hr hJ4 hY4 hM4 ownI
    gi_wp2
    refine ⟨hddl _, HR.out.mono ?_⟩
    rintro e W7 ⟨rfl, hJ7, hK7⟩
    have HJ7 : Hid (J (pre ++ [x]) W7) := hJ7
    have HK7 : Hid (KpO L1 n₀ Mine W6 W7) := hK7
    clear hJ7 hK7
    gi_wp2
    have hc := HK7.out.cel Y0 _ _ HF.out.1 HF.out.2
    exact ⟨⟨HK7.out.bel.size, fun k o hk h1 h2 => HK7.out.oth k o (by omega) h1 h2⟩, HK7.out.bel, HJ7.out, hc.1, hc.2⟩
  case done =>
    rintro D W5 hD ⟨hJ5, _⟩ hK
    gi_wp2
    refine ⟨by simp, .inl ⟨_, _, rfl, run_takeDeferred hK, ?_⟩⟩
    exact ⟨_, results_none rfl _ _ _, ⟨_, rfl⟩, hJo.putObj _ hJ5 (by omega) hK rfl⟩
end Go.Proofs.YbulkdxqmGreatFmt
