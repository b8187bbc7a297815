/- LawS6213CWhole: slices.Insert of one element, where there is no room: a new row. (Written by one text for two instances.) -/
import Derived.Test.YbulkdxqmGreatFmtIns
import Derived.Shelf.Spec.SlicesInsertGrow
namespace Go.Proofs.YbulkdxqmGreatFmt
set_option linter.unusedVariables false
set_option linter.unusedSimpArgs false
open Go.RowKit

set_option maxHeartbeats 4000000 in
set_option maxRecDepth 100000 in
theorem ins70_grow (g n i vb : Nat) (xs vs : List Value) (w : World) (h : Arr w g 25 1 n n xs) (hi : i < n) (hbig : n ≤ 1000000) (hv : Arr w vb 25 1 1 1 vs) :
    Calls Ybaz.prog 70 #[.slice (some ⟨g, 0, none⟩) n n, .int .i64 i, .slice (some ⟨vb, 0, none⟩) 1 1] w fun e w' => ∃ c', e = .returned (.slice (some ⟨w.heap.size, 0, none⟩) (n + 1) c') ∧ Arr w' w.heap.size 25 1 (n + 1) c' (insL xs vs (i * 1)) ∧ Chg S0 w w' := by
  have hlen := h.len
  have hvl : vs.length = 1 := by have := hv.len; omega
  obtain ⟨i0, hi0, hz0, hzs, hzb⟩ := info_parts binfo25
  have hz2 : ¬ ((i : Int) = (n : Int)) := by omega
  have hbw : g < w.heap.size := h.lt
  have hvw : vb < w.heap.size := hv.lt
  have hkk : (n : Int) + 1 - (i : Int) = ((n + 1 - i : Nat) : Int) := by omega
  have hik : i + (n + 1 - i) = n + 1 := by omega
  have hold : (Builtin.firstCells i0.size i (.slice (some ⟨g, 0, none⟩) i n)).run Ybaz.prog w.drew = .ok (xs.take (i * 1)).toArray w.drew := by
    rw [hzs]
    exact run_firstCells_some w.drew 1 i ⟨g, 0, none⟩ i n (xs.take (i * 1)) (by rw [List.length_take]; omega) (fun j v hj => by
      rw [Addr.add_lit, Nat.zero_add]
      rw [List.getElem?_take] at hj
      split at hj
      · exact h.cell j v hj
      · cases hj)
  have hrz : ∀ ty, (Builtin.append_ #[35, 3] ty #[.slice (some ⟨g, 0, none⟩) i n, .int .i64 ((n : Int) + 1 - (i : Int))]).run Ybaz.prog w =
      .ok (.slice (some ⟨w.heap.size, 0, none⟩) (n + 1) (grownCap w (n + 1) n 25)) (w.drew.alloc (.cells ((xs.take (i * 1)).toArray ++ Builtin.zeroCells (Value.cells (.pointer none)) (n + 1 - i) ++ Builtin.zeroCells (Value.cells (.pointer none)) (grownCap w (n + 1) n 25 - (n + 1))) 25)) := fun ty => by
    have h := Lib.run_append_grow_zeros w 35 3 ty 25 i0 _ .i64 .i64 Ybaz.underlying35 Ybaz.underlying3 hi0 hz0 (some ⟨g, 0, none⟩) i n (xs.take (i * 1)) hold (n + 1 - i) (by omega) (by omega) (by omega) (by omega) (by rw [hzb]; omega) (by rw [hzb, hik]; exact growslice_fits (by omega) (by omega))
    rw [hik] at h
    rw [hkk]
    exact h
  obtain ⟨G, hG⟩ : ∃ G, G = grownCap w (n + 1) n 25 := ⟨_, rfl⟩
  obtain ⟨ROW, hROW⟩ : ∃ ROW : Array Value, ROW = (xs.take (i * 1)).toArray ++ Builtin.zeroCells (Value.cells (.pointer none)) (n + 1 - i) ++ Builtin.zeroCells (Value.cells (.pointer none)) (G - (n + 1)) := ⟨_, rfl⟩
  rw [← hG] at hrz
  rw [← hROW] at hrz
  have hGn : n + 1 ≤ G := by rw [hG]; exact grownCap_ge w _ _ _
  have hzc : (Value.cells (.pointer none)).size = 1 := rfl
  have hRs : ROW.size = G * 1 := by
    rw [hROW, Array.size_append, Array.size_append, zeroCells_size, zeroCells_size, hzc, List.size_toArray, List.length_take]; omega
  have hpre : ∀ j, j < i * 1 → ROW[j]? = xs[j]? := fun j hj => by
    rw [hROW, Array.append_assoc, Array.getElem?_append_left (by rw [List.size_toArray, List.length_take]; omega), List.getElem?_toArray, List.getElem?_take, if_pos hj]
  obtain ⟨W1, hW1⟩ : ∃ W1, W1 = w.drew.alloc (.cells ROW 25) := ⟨_, rfl⟩
  rw [← hW1] at hrz
  have hN : ∀ j, j < G * 1 → (W1.cell? ⟨w.heap.size, j, none⟩).isSome = true := fun j hj => by
    rw [hW1, World.cell?_alloc_at (w := w.drew) ROW _ w.heap.size j rfl, Array.getElem?_eq_getElem (by omega)]; rfl
  have hNf : ∀ j, W1.frozen? ⟨w.heap.size, j, none⟩ = false := fun j => by rw [hW1]; exact World.frozen?_alloc_at (w := w.drew) ROW _ w.heap.size j rfl
  have hOb : ∀ j v, w.cell? ⟨g, j, none⟩ = some v → W1.cell? ⟨g, j, none⟩ = some v := fun j v h => by rw [hW1, World.cell?_alloc_past (w := w.drew) _ g j hbw]; exact h
  have hOv : ∀ j v, w.cell? ⟨vb, j, none⟩ = some v → W1.cell? ⟨vb, j, none⟩ = some v := fun j v h => by rw [hW1, World.cell?_alloc_past (w := w.drew) _ vb j hvw]; exact h
  have hcpA : ∀ (W : World), (∀ x, W.cell? x = W1.cell? x) → (∀ x, W.frozen? x = W1.frozen? x) → ∀ ty dc, (Builtin.copy_ #[35, 35] ty #[.slice (some ⟨w.heap.size, i, none⟩) (n + 1 - i) dc, .slice (some ⟨vb, 0, none⟩) 1 1]).run Ybaz.prog W = .ok (goInt 1) (W.setCells w.heap.size (i) vs) := fun W hWc hWf ty dc => by
    have := run_copyK (P := Ybaz.prog) W 35 35 ty 25 1 w.heap.size (i * 1) (n + 1 - i) dc ⟨vb, 0, none⟩ 1 1 1 vs Ybaz.underlying35 sz25 (by simp only [Nat.min_def]; split <;> omega) (by omega)
      (fun j v hj => by rw [Addr.add_lit, hWc, Nat.zero_add]; exact hOv _ v (hv.cell j v hj))
      (fun j hj => by rw [hWc]; exact hN _ (by omega)) (fun j hj => by rw [hWf]; exact hNf _) hv.one
    simpa using this
  have hG63 : G ≤ 9223372036854775807 := by
    have := grownCap_le_maxLen w (n + 1) n 25 (by unfold maxLen; omega)
    rw [← hG] at this
    unfold maxLen at this
    omega
  have hGi : ¬ (G = i) := by omega
  have hGim : ¬ (G = i + 1) := by omega
  have hci : ¬ (n = i) := by omega
  have hbN : g ≠ w.heap.size := by omega
  have hdl : (xs.drop (i * 1)).length = (n - i) * 1 := by rw [List.length_drop, hlen]; omega
  have hcpB : ∀ (W : World), (∀ x, W.cell? x = (W1.setCells w.heap.size (i) vs).cell? x) → (∀ x, W.frozen? x = (W1.setCells w.heap.size (i) vs).frozen? x) → ∀ ty dc sc, (Builtin.copy_ #[35, 35] ty #[.slice (some ⟨w.heap.size, i + 1, none⟩) (n - i) dc, .slice (some ⟨g, i, none⟩) (n - i) sc]).run Ybaz.prog W = .ok (goInt (n - i : Nat)) (W.setCells w.heap.size ((i + 1) * 1) (xs.drop (i * 1))) := fun W hWc hWf ty dc sc => by
    have := run_copyK (P := Ybaz.prog) W 35 35 ty 25 1 w.heap.size ((i + 1) * 1) (n - i) dc ⟨g, i * 1, none⟩ (n - i) sc (n - i) (xs.drop (i * 1)) Ybaz.underlying35 sz25 (by simp only [Nat.min_def]; split <;> omega) hdl
      (fun j v hj => by
        rw [Addr.add_lit, hWc, World.cell?_setCells_out _ _ _ _ _ (fun h _ => absurd h hbN)]
        exact hOb _ v (h.cell _ v (by rwa [List.getElem?_drop] at hj)))
      (fun j hj => by rw [hWc]; exact has_setCells _ _ _ _ _ _ (hN _ (by omega)))
      (fun j hj => by rw [hWf, World.frozen?_setCells]; exact hNf _) (fun v hv => h.one v (List.mem_of_mem_drop hv))
    simpa using this
  subst hW1
  have hE1 : ∀ x, ((w.alloc (.cells ROW 25)).drew).cell? x = (w.drew.alloc (.cells ROW 25)).cell? x := fun x => rfl
  have hE2 : ∀ x, ((w.alloc (.cells ROW 25)).drew).frozen? x = (w.drew.alloc (.cells ROW 25)).frozen? x := fun x => rfl
  have hF1 : ∀ x, (((w.alloc (.cells ROW 25)).drew.setCells w.heap.size (i) vs).drew).cell? x = ((w.drew.alloc (.cells ROW 25)).setCells w.heap.size (i) vs).cell? x := fun x => rfl
  have hF2 : ∀ x, (((w.alloc (.cells ROW 25)).drew.setCells w.heap.size (i) vs).drew).frozen? x = ((w.drew.alloc (.cells ROW 25)).setCells w.heap.size (i) vs).frozen? x := fun x => rfl
  have hw1 : IntKind.i64.wrap ((i : Int) + 1) = (i : Int) + 1 := by rw [IntKind.wrap_i64]; omega
  have hw2 : IntKind.i64.wrap ((n : Int) + 1) = (n : Int) + 1 := by rw [IntKind.wrap_i64]; omega
  have hw3 : IntKind.i64.wrap ((n : Int) + 1 - (i : Int)) = (n : Int) + 1 - (i : Int) := by rw [IntKind.wrap_i64]; omega
  have hb1 : (0 : Int) ≤ (i : Int) + 1 := by omega
  have hin : i ≤ n := by omega
  have htn : ((i : Int) + 1).toNat = i + 1 := by omega
  have hb3 : (i : Int) ≤ (n : Int) := by omega
  have hb4 : n + 1 - (i + 1) = n - i := by omega
  have HA : Hid (Arr w g 25 1 n n xs) := h
  have HVO : Hid (∀ v ∈ vs, v.oneCell' = true) := hv.one
  have HFIN : Hid (∀ W : World, (∀ p, W.cell? p = (((w.alloc (.cells ROW 25)).setCells w.heap.size (i * 1) vs).setCells w.heap.size ((i + 1) * 1) (xs.drop (i * 1))).cell? p) → (∀ j, W.frozen? ⟨w.heap.size, j, none⟩ = false) → W.shape? w.heap.size = some (25, G * 1) → Arr W w.heap.size 25 1 (n + 1) G (insL xs vs (i * 1))) :=
    Arr.of_grow w ROW 25 1 n G i xs vs hlen hin hvl hGn hG63 h.one hv.one hRs hpre
  have HRS : Hid (ROW.size = G * 1) := hRs
  clear hkk hik hold hROW hG h hv hlen hvl hRs hpre hN hNf hOb hOv hdl
  go_enter Ybaz.func70, Ybaz.ntmps70
  go_wp2_with (first
    | (at_builtin; with_reducible refine Lib.wpList_append_run _ rfl _ _ _ _ rfl _ _ rfl rfl _ _ (hrz _) ?_)
    | (at_builtin; with_reducible refine wpList_copy_runI _ rfl _ _ 35 35 rfl _ _ rfl rfl (hcpA _ hE1 hE2 _ _) ?_))
  go_region_law (refine step_copy_runI rfl _ _ 35 35 rfl (.slice (some ⟨w.heap.size, i + 1, none⟩) (n - i) (G - (i + 1))) (.slice (some ⟨g, i, none⟩) (n - i) (n - i)) (by simp [Act.eval, Act.put]) (by simp [Act.eval, Act.put]) (hcpB _ hF1 hF2 3 (G - (i + 1)) (n - i)) ?_)
  go_wp2
  go_ret
  refine ⟨G, rfl, HFIN.out _ (fun p => by (try simp only [Nat.mul_one]); simp only [← drew_setCells]; rfl) (fun j => ?_) ?_, ?_⟩
  · rw [World.frozen?_setCells]
    show ((w.alloc (.cells ROW 25)).drew.setCells w.heap.size (i) vs).frozen? _ = false
    rw [World.frozen?_setCells]
    exact World.frozen?_alloc_at (w := w) ROW _ w.heap.size j rfl
  · refine shape_setCells _ _ _ _ _ _ (shape_setCells _ _ _ (w.alloc (.cells ROW 25)).drew _ _ ?_)
    show (w.alloc (.cells ROW 25)).shape? _ = _
    unfold World.shape?
    rw [heap_alloc_new]
    show some (25, ROW.size) = _
    rw [HRS.out]
  · exact Chg.setCells _ _ _ _ (Chg.setCells _ _ _ _ (((Chg.refl S0 w).alloc _).drew) (fun hb => absurd hb (Nat.lt_irrefl _))).drew (fun hb => absurd hb (Nat.lt_irrefl _))

set_option maxHeartbeats 4000000 in
set_option maxRecDepth 100000 in
theorem ins70_last (base : Option Addr) (g n vb : Nat) (xs vs : List Value) (w : World) (hbase : (base = none ∧ n = 0) ∨ base = some ⟨g, 0, none⟩) (hx : ∀ j v, xs[j]? = some v → w.cell? ⟨g, j, none⟩ = some v) (hlen : xs.length = n * 1) (hone : ∀ v ∈ xs, v.oneCell' = true) (hbig : n ≤ 1000000) (hv : Arr w vb 25 1 1 1 vs) :
    Calls Ybaz.prog 70 #[.slice base n n, .int .i64 n, .slice (some ⟨vb, 0, none⟩) 1 1] w fun e w' => ∃ c', e = .returned (.slice (some ⟨w.heap.size, 0, none⟩) (n + 1) c') ∧ Arr w' w.heap.size 25 1 (n + 1) c' (insL xs vs (n * 1)) ∧ Chg S0 w w' := by
  have hvl : vs.length = 1 := by have := hv.len; omega
  obtain ⟨i0, hi0, hz0, hzs, hzb⟩ := info_parts binfo25
  have hsrc : Src Ybaz.prog i0.size 35 (.slice (some ⟨vb, 0, none⟩) 1 1) 1 vs w := by
    rw [hzs]
    exact Src.ofSlice w Ybaz.underlying35 ⟨vb, 0, none⟩ 1 1 vs (by omega) (fun j u hj => by rw [Addr.add_lit, Nat.zero_add]; exact hv.cell j u hj) hv.one
  have hold : (Builtin.firstCells i0.size n (.slice base n n)).run Ybaz.prog w.drew = .ok xs.toArray w.drew := by
    rw [hzs]
    rcases hbase with ⟨rfl, rfl⟩ | rfl
    · obtain rfl : xs = [] := List.eq_nil_of_length_eq_zero (by omega)
      exact run_firstCells_none w.drew 1 0 0 0
    · exact run_firstCells_some w.drew 1 n ⟨g, 0, none⟩ n n xs hlen (fun j v hj => by rw [Addr.add_lit, Nat.zero_add]; exact hx j v hj)
  have hrun : ∀ ty, (Builtin.append_ #[35, 35] ty #[.slice base n n, .slice (some ⟨vb, 0, none⟩) 1 1]).run Ybaz.prog w = _ := fun ty =>
    run_append_grow_src w 35 35 ty 25 i0 _ Ybaz.underlying35 hi0 hz0 base n n xs hold _ 1 vs hsrc (by omega) (by omega) (by rw [hzb]; exact growslice_fits (by omega) (by omega))
  obtain ⟨G, hG⟩ : ∃ G, G = grownCap w (n + 1) n 25 := ⟨_, rfl⟩
  obtain ⟨ROW, hROW⟩ : ∃ ROW : Array Value, ROW = (xs ++ vs).toArray ++ Builtin.zeroCells (Value.cells (.pointer none)) (G - (n + 1)) := ⟨_, rfl⟩
  rw [← hG] at hrun
  rw [← hROW] at hrun
  have hGn : n + 1 ≤ G := by rw [hG]; exact grownCap_ge w _ _ _
  have hG63 : G ≤ 9223372036854775807 := by
    have := grownCap_le_maxLen w (n + 1) n 25 (by unfold maxLen; omega)
    rw [← hG] at this
    unfold maxLen at this
    omega
  have hzc : (Value.cells (.pointer none)).size = 1 := rfl
  have hRs : ROW.size = G * 1 := by
    rw [hROW, Array.size_append, zeroCells_size, hzc, List.size_toArray, List.length_append]; omega
  have hin : insL xs vs (n * 1) = xs ++ vs := by
    unfold insL; rw [List.take_of_length_le (by omega), List.drop_eq_nil_of_le (by omega), List.append_nil]
  have HFIN : Hid (Arr (w.alloc (.cells ROW 25)) w.heap.size 25 1 (n + 1) G (insL xs vs (n * 1))) := by
    refine ⟨fun j v hj => ?_, fun j hj => ?_, fun j => frozen_of_row _ _ _ _ _ (heap_alloc_new _ _), ?_, ?_, hGn, hG63, fun v hv' => ?_⟩
    · rw [cell_of_row _ _ _ _ _ _ (heap_alloc_new _ _)]
      rw [hin] at hj
      rw [hROW, Array.getElem?_append_left (by have := (List.getElem?_eq_some_iff.1 hj).1; simpa using this), List.getElem?_toArray]
      exact hj
    · rw [cell_of_row _ _ _ _ _ _ (heap_alloc_new _ _), Array.getElem?_eq_getElem (by omega)]; rfl
    · unfold World.shape?
      rw [heap_alloc_new]
      show some (25, ROW.size) = _
      rw [hRs]
    · rw [hin, List.length_append]; omega
    · rw [hin] at hv'
      rcases List.mem_append.1 hv' with h | h
      · exact hone v h
      · exact hv.one v h
  clear hold hsrc hG hROW hRs hin hzc hx hlen hone hv hvl
  go_enter Ybaz.func70, Ybaz.ntmps70
  rcases hbase with ⟨rfl, rfl⟩ | rfl
  · go_wp2_with (at_builtin; refine Lib.wpList_append_run _ rfl _ _ _ _ rfl _ _ rfl rfl _ _ (hrun _) ?_)
    go_ret
    exact ⟨G, rfl, HFIN.out.next ((Chg.refl S0 _).drew) (fun _ => id), ((Chg.refl S0 w).alloc _).drew⟩
  · go_wp2_with (at_builtin; refine Lib.wpList_append_run _ rfl _ _ _ _ rfl _ _ rfl rfl _ _ (hrun _) ?_)
    all_goals (go_ret; exact ⟨G, rfl, HFIN.out.next ((Chg.refl S0 _).drew) (fun _ => id), ((Chg.refl S0 w).alloc _).drew⟩)

set_option maxHeartbeats 4000000 in
set_option maxRecDepth 100000 in
theorem ins45_grow (g n i vb : Nat) (xs vs : List Value) (w : World) (h : Arr w g 103 2 n n xs) (hi : i < n) (hbig : n ≤ 1000000) (hv : Arr w vb 103 2 1 1 vs) :
    Calls Ybaz.prog 45 #[.slice (some ⟨g, 0, none⟩) n n, .int .i64 i, .slice (some ⟨vb, 0, none⟩) 1 1] w fun e w' => ∃ c', e = .returned (.slice (some ⟨w.heap.size, 0, none⟩) (n + 1) c') ∧ Arr w' w.heap.size 103 2 (n + 1) c' (insL xs vs (i * 2)) ∧ Chg S0 w w' := by
  have hlen := h.len
  have hvl : vs.length = 2 := by have := hv.len; omega
  obtain ⟨i0, hi0, hz0, hzs, hzb⟩ := info_parts binfo103
  have hz2 : ¬ ((i : Int) = (n : Int)) := by omega
  have hbw : g < w.heap.size := h.lt
  have hvw : vb < w.heap.size := hv.lt
  have hkk : (n : Int) + 1 - (i : Int) = ((n + 1 - i : Nat) : Int) := by omega
  have hik : i + (n + 1 - i) = n + 1 := by omega
  have hold : (Builtin.firstCells i0.size i (.slice (some ⟨g, 0, none⟩) i n)).run Ybaz.prog w.drew = .ok (xs.take (i * 2)).toArray w.drew := by
    rw [hzs]
    exact run_firstCells_some w.drew 2 i ⟨g, 0, none⟩ i n (xs.take (i * 2)) (by rw [List.length_take]; omega) (fun j v hj => by
      rw [Addr.add_lit, Nat.zero_add]
      rw [List.getElem?_take] at hj
      split at hj
      · exact h.cell j v hj
      · cases hj)
  have hrz : ∀ ty, (Builtin.append_ #[46, 3] ty #[.slice (some ⟨g, 0, none⟩) i n, .int .i64 ((n : Int) + 1 - (i : Int))]).run Ybaz.prog w =
      .ok (.slice (some ⟨w.heap.size, 0, none⟩) (n + 1) (grownCap w (n + 1) n 103)) (w.drew.alloc (.cells ((xs.take (i * 2)).toArray ++ Builtin.zeroCells (Value.cells (.agg #[.int .i64 0, .int .i64 0])) (n + 1 - i) ++ Builtin.zeroCells (Value.cells (.agg #[.int .i64 0, .int .i64 0])) (grownCap w (n + 1) n 103 - (n + 1))) 103)) := fun ty => by
    have h := Lib.run_append_grow_zeros w 46 3 ty 103 i0 _ .i64 .i64 Ybaz.underlying46 Ybaz.underlying3 hi0 hz0 (some ⟨g, 0, none⟩) i n (xs.take (i * 2)) hold (n + 1 - i) (by omega) (by omega) (by omega) (by omega) (by rw [hzb]; omega) (by rw [hzb, hik]; exact growslice_fits (by omega) (by omega))
    rw [hik] at h
    rw [hkk]
    exact h
  obtain ⟨G, hG⟩ : ∃ G, G = grownCap w (n + 1) n 103 := ⟨_, rfl⟩
  obtain ⟨ROW, hROW⟩ : ∃ ROW : Array Value, ROW = (xs.take (i * 2)).toArray ++ Builtin.zeroCells (Value.cells (.agg #[.int .i64 0, .int .i64 0])) (n + 1 - i) ++ Builtin.zeroCells (Value.cells (.agg #[.int .i64 0, .int .i64 0])) (G - (n + 1)) := ⟨_, rfl⟩
  rw [← hG] at hrz
  rw [← hROW] at hrz
  have hGn : n + 1 ≤ G := by rw [hG]; exact grownCap_ge w _ _ _
  have hzc : (Value.cells (.agg #[.int .i64 0, .int .i64 0])).size = 2 := rfl
  have hRs : ROW.size = G * 2 := by
    rw [hROW, Array.size_append, Array.size_append, zeroCells_size, zeroCells_size, hzc, List.size_toArray, List.length_take]; omega
  have hpre : ∀ j, j < i * 2 → ROW[j]? = xs[j]? := fun j hj => by
    rw [hROW, Array.append_assoc, Array.getElem?_append_left (by rw [List.size_toArray, List.length_take]; omega), List.getElem?_toArray, List.getElem?_take, if_pos hj]
  obtain ⟨W1, hW1⟩ : ∃ W1, W1 = w.drew.alloc (.cells ROW 103) := ⟨_, rfl⟩
  rw [← hW1] at hrz
  have hN : ∀ j, j < G * 2 → (W1.cell? ⟨w.heap.size, j, none⟩).isSome = true := fun j hj => by
    rw [hW1, World.cell?_alloc_at (w := w.drew) ROW _ w.heap.size j rfl, Array.getElem?_eq_getElem (by omega)]; rfl
  have hNf : ∀ j, W1.frozen? ⟨w.heap.size, j, none⟩ = false := fun j => by rw [hW1]; exact World.frozen?_alloc_at (w := w.drew) ROW _ w.heap.size j rfl
  have hOb : ∀ j v, w.cell? ⟨g, j, none⟩ = some v → W1.cell? ⟨g, j, none⟩ = some v := fun j v h => by rw [hW1, World.cell?_alloc_past (w := w.drew) _ g j hbw]; exact h
  have hOv : ∀ j v, w.cell? ⟨vb, j, none⟩ = some v → W1.cell? ⟨vb, j, none⟩ = some v := fun j v h => by rw [hW1, World.cell?_alloc_past (w := w.drew) _ vb j hvw]; exact h
  have hcpA : ∀ (W : World), (∀ x, W.cell? x = W1.cell? x) → (∀ x, W.frozen? x = W1.frozen? x) → ∀ ty dc, (Builtin.copy_ #[46, 45] ty #[.slice (some ⟨w.heap.size, i * 2, none⟩) (n + 1 - i) dc, .slice (some ⟨vb, 0, none⟩) 1 1]).run Ybaz.prog W = .ok (goInt 1) (W.setCells w.heap.size (i * 2) vs) := fun W hWc hWf ty dc => by
    have := run_copyK (P := Ybaz.prog) W 46 45 ty 103 2 w.heap.size (i * 2) (n + 1 - i) dc ⟨vb, 0, none⟩ 1 1 1 vs Ybaz.underlying46 sz103 (by simp only [Nat.min_def]; split <;> omega) (by omega)
      (fun j v hj => by rw [Addr.add_lit, hWc, Nat.zero_add]; exact hOv _ v (hv.cell j v hj))
      (fun j hj => by rw [hWc]; exact hN _ (by omega)) (fun j hj => by rw [hWf]; exact hNf _) hv.one
    simpa using this
  have hG63 : G ≤ 9223372036854775807 := by
    have := grownCap_le_maxLen w (n + 1) n 103 (by unfold maxLen; omega)
    rw [← hG] at this
    unfold maxLen at this
    omega
  have hGi : ¬ (G = i) := by omega
  have hGim : ¬ (G = i + 1) := by omega
  have hci : ¬ (n = i) := by omega
  have hbN : g ≠ w.heap.size := by omega
  have hdl : (xs.drop (i * 2)).length = (n - i) * 2 := by rw [List.length_drop, hlen]; omega
  have hcpB : ∀ (W : World), (∀ x, W.cell? x = (W1.setCells w.heap.size (i * 2) vs).cell? x) → (∀ x, W.frozen? x = (W1.setCells w.heap.size (i * 2) vs).frozen? x) → ∀ ty dc sc, (Builtin.copy_ #[46, 46] ty #[.slice (some ⟨w.heap.size, (i + 1) * 2, none⟩) (n - i) dc, .slice (some ⟨g, i * 2, none⟩) (n - i) sc]).run Ybaz.prog W = .ok (goInt (n - i : Nat)) (W.setCells w.heap.size ((i + 1) * 2) (xs.drop (i * 2))) := fun W hWc hWf ty dc sc => by
    have := run_copyK (P := Ybaz.prog) W 46 46 ty 103 2 w.heap.size ((i + 1) * 2) (n - i) dc ⟨g, i * 2, none⟩ (n - i) sc (n - i) (xs.drop (i * 2)) Ybaz.underlying46 sz103 (by simp only [Nat.min_def]; split <;> omega) hdl
      (fun j v hj => by
        rw [Addr.add_lit, hWc, World.cell?_setCells_out _ _ _ _ _ (fun h _ => absurd h hbN)]
        exact hOb _ v (h.cell _ v (by rwa [List.getElem?_drop] at hj)))
      (fun j hj => by rw [hWc]; exact has_setCells _ _ _ _ _ _ (hN _ (by omega)))
      (fun j hj => by rw [hWf, World.frozen?_setCells]; exact hNf _) (fun v hv => h.one v (List.mem_of_mem_drop hv))
    simpa using this
  subst hW1
  have hE1 : ∀ x, ((w.alloc (.cells ROW 103)).drew).cell? x = (w.drew.alloc (.cells ROW 103)).cell? x := fun x => rfl
  have hE2 : ∀ x, ((w.alloc (.cells ROW 103)).drew).frozen? x = (w.drew.alloc (.cells ROW 103)).frozen? x := fun x => rfl
  have hF1 : ∀ x, (((w.alloc (.cells ROW 103)).drew.setCells w.heap.size (i * 2) vs).drew).cell? x = ((w.drew.alloc (.cells ROW 103)).setCells w.heap.size (i * 2) vs).cell? x := fun x => rfl
  have hF2 : ∀ x, (((w.alloc (.cells ROW 103)).drew.setCells w.heap.size (i * 2) vs).drew).frozen? x = ((w.drew.alloc (.cells ROW 103)).setCells w.heap.size (i * 2) vs).frozen? x := fun x => rfl
  have hw1 : IntKind.i64.wrap ((i : Int) + 1) = (i : Int) + 1 := by rw [IntKind.wrap_i64]; omega
  have hw2 : IntKind.i64.wrap ((n : Int) + 1) = (n : Int) + 1 := by rw [IntKind.wrap_i64]; omega
  have hw3 : IntKind.i64.wrap ((n : Int) + 1 - (i : Int)) = (n : Int) + 1 - (i : Int) := by rw [IntKind.wrap_i64]; omega
  have hb1 : (0 : Int) ≤ (i : Int) + 1 := by omega
  have hin : i ≤ n := by omega
  have htn : ((i : Int) + 1).toNat = i + 1 := by omega
  have hb3 : (i : Int) ≤ (n : Int) := by omega
  have hb4 : n + 1 - (i + 1) = n - i := by omega
  have HA : Hid (Arr w g 103 2 n n xs) := h
  have HVO : Hid (∀ v ∈ vs, v.oneCell' = true) := hv.one
  have HFIN : Hid (∀ W : World, (∀ p, W.cell? p = (((w.alloc (.cells ROW 103)).setCells w.heap.size (i * 2) vs).setCells w.heap.size ((i + 1) * 2) (xs.drop (i * 2))).cell? p) → (∀ j, W.frozen? ⟨w.heap.size, j, none⟩ = false) → W.shape? w.heap.size = some (103, G * 2) → Arr W w.heap.size 103 2 (n + 1) G (insL xs vs (i * 2))) :=
    Arr.of_grow w ROW 103 2 n G i xs vs hlen hin hvl hGn hG63 h.one hv.one hRs hpre
  have HRS : Hid (ROW.size = G * 2) := hRs
  clear hkk hik hold hROW hG h hv hlen hvl hRs hpre hN hNf hOb hOv hdl
  go_enter Ybaz.func45, Ybaz.ntmps45
  go_wp2_with (first
    | (at_builtin; with_reducible refine Lib.wpList_append_run _ rfl _ _ _ _ rfl _ _ rfl rfl _ _ (hrz _) ?_)
    | (at_builtin; with_reducible refine wpList_copy_runI _ rfl _ _ 46 45 rfl _ _ rfl rfl (hcpA _ hE1 hE2 _ _) ?_))
  go_region_law (refine step_copy_runI rfl _ _ 46 46 rfl (.slice (some ⟨w.heap.size, (i + 1) * 2, none⟩) (n - i) (G - (i + 1))) (.slice (some ⟨g, i * 2, none⟩) (n - i) (n - i)) (by simp [Act.eval, Act.put]) (by simp [Act.eval, Act.put]) (hcpB _ hF1 hF2 3 (G - (i + 1)) (n - i)) ?_)
  go_wp2
  go_ret
  refine ⟨G, rfl, HFIN.out _ (fun p => by (try simp only [Nat.mul_one]); simp only [← drew_setCells]; rfl) (fun j => ?_) ?_, ?_⟩
  · rw [World.frozen?_setCells]
    show ((w.alloc (.cells ROW 103)).drew.setCells w.heap.size (i * 2) vs).frozen? _ = false
    rw [World.frozen?_setCells]
    exact World.frozen?_alloc_at (w := w) ROW _ w.heap.size j rfl
  · refine shape_setCells _ _ _ _ _ _ (shape_setCells _ _ _ (w.alloc (.cells ROW 103)).drew _ _ ?_)
    show (w.alloc (.cells ROW 103)).shape? _ = _
    unfold World.shape?
    rw [heap_alloc_new]
    show some (103, ROW.size) = _
    rw [HRS.out]
  · exact Chg.setCells _ _ _ _ (Chg.setCells _ _ _ _ (((Chg.refl S0 w).alloc _).drew) (fun hb => absurd hb (Nat.lt_irrefl _))).drew (fun hb => absurd hb (Nat.lt_irrefl _))

set_option maxHeartbeats 4000000 in
set_option maxRecDepth 100000 in
theorem ins45_last (base : Option Addr) (g n vb : Nat) (xs vs : List Value) (w : World) (hbase : (base = none ∧ n = 0) ∨ base = some ⟨g, 0, none⟩) (hx : ∀ j v, xs[j]? = some v → w.cell? ⟨g, j, none⟩ = some v) (hlen : xs.length = n * 2) (hone : ∀ v ∈ xs, v.oneCell' = true) (hbig : n ≤ 1000000) (hv : Arr w vb 103 2 1 1 vs) :
    Calls Ybaz.prog 45 #[.slice base n n, .int .i64 n, .slice (some ⟨vb, 0, none⟩) 1 1] w fun e w' => ∃ c', e = .returned (.slice (some ⟨w.heap.size, 0, none⟩) (n + 1) c') ∧ Arr w' w.heap.size 103 2 (n + 1) c' (insL xs vs (n * 2)) ∧ Chg S0 w w' := by
  have hvl : vs.length = 2 := by have := hv.len; omega
  obtain ⟨i0, hi0, hz0, hzs, hzb⟩ := info_parts binfo103
  have hsrc : Src Ybaz.prog i0.size 45 (.slice (some ⟨vb, 0, none⟩) 1 1) 1 vs w := by
    rw [hzs]
    exact Src.ofSlice w Ybaz.underlying45 ⟨vb, 0, none⟩ 1 1 vs (by omega) (fun j u hj => by rw [Addr.add_lit, Nat.zero_add]; exact hv.cell j u hj) hv.one
  have hold : (Builtin.firstCells i0.size n (.slice base n n)).run Ybaz.prog w.drew = .ok xs.toArray w.drew := by
    rw [hzs]
    rcases hbase with ⟨rfl, rfl⟩ | rfl
    · obtain rfl : xs = [] := List.eq_nil_of_length_eq_zero (by omega)
      exact run_firstCells_none w.drew 2 0 0 0
    · exact run_firstCells_some w.drew 2 n ⟨g, 0, none⟩ n n xs hlen (fun j v hj => by rw [Addr.add_lit, Nat.zero_add]; exact hx j v hj)
  have hrun : ∀ ty, (Builtin.append_ #[46, 45] ty #[.slice base n n, .slice (some ⟨vb, 0, none⟩) 1 1]).run Ybaz.prog w = _ := fun ty =>
    run_append_grow_src w 46 45 ty 103 i0 _ Ybaz.underlying46 hi0 hz0 base n n xs hold _ 1 vs hsrc (by omega) (by omega) (by rw [hzb]; exact growslice_fits (by omega) (by omega))
  obtain ⟨G, hG⟩ : ∃ G, G = grownCap w (n + 1) n 103 := ⟨_, rfl⟩
  obtain ⟨ROW, hROW⟩ : ∃ ROW : Array Value, ROW = (xs ++ vs).toArray ++ Builtin.zeroCells (Value.cells (.agg #[.int .i64 0, .int .i64 0])) (G - (n + 1)) := ⟨_, rfl⟩
  rw [← hG] at hrun
  rw [← hROW] at hrun
  have hGn : n + 1 ≤ G := by rw [hG]; exact grownCap_ge w _ _ _
  have hG63 : G ≤ 9223372036854775807 := by
    have := grownCap_le_maxLen w (n + 1) n 103 (by unfold maxLen; omega)
    rw [← hG] at this
    unfold maxLen at this
    omega
  have hzc : (Value.cells (.agg #[.int .i64 0, .int .i64 0])).size = 2 := rfl
  have hRs : ROW.size = G * 2 := by
    rw [hROW, Array.size_append, zeroCells_size, hzc, List.size_toArray, List.length_append]; omega
  have hin : insL xs vs (n * 2) = xs ++ vs := by
    unfold insL; rw [List.take_of_length_le (by omega), List.drop_eq_nil_of_le (by omega), List.append_nil]
  have HFIN : Hid (Arr (w.alloc (.cells ROW 103)) w.heap.size 103 2 (n + 1) G (insL xs vs (n * 2))) := by
    refine ⟨fun j v hj => ?_, fun j hj => ?_, fun j => frozen_of_row _ _ _ _ _ (heap_alloc_new _ _), ?_, ?_, hGn, hG63, fun v hv' => ?_⟩
    · rw [cell_of_row _ _ _ _ _ _ (heap_alloc_new _ _)]
      rw [hin] at hj
      rw [hROW, Array.getElem?_append_left (by have := (List.getElem?_eq_some_iff.1 hj).1; simpa using this), List.getElem?_toArray]
      exact hj
    · rw [cell_of_row _ _ _ _ _ _ (heap_alloc_new _ _), Array.getElem?_eq_getElem (by omega)]; rfl
    · unfold World.shape?
      rw [heap_alloc_new]
      show some (103, ROW.size) = _
      rw [hRs]
    · rw [hin, List.length_append]; omega
    · rw [hin] at hv'
      rcases List.mem_append.1 hv' with h | h
      · exact hone v h
      · exact hv.one v h
  clear hold hsrc hG hROW hRs hin hzc hx hlen hone hv hvl
  go_enter Ybaz.func45, Ybaz.ntmps45
  rcases hbase with ⟨rfl, rfl⟩ | rfl
  · go_wp2_with (at_builtin; refine Lib.wpList_append_run _ rfl _ _ _ _ rfl _ _ rfl rfl _ _ (hrun _) ?_)
    go_ret
    exact ⟨G, rfl, HFIN.out.next ((Chg.refl S0 _).drew) (fun _ => id), ((Chg.refl S0 w).alloc _).drew⟩
  · go_wp2_with (at_builtin; refine Lib.wpList_append_run _ rfl _ _ _ _ rfl _ _ rfl rfl _ _ (hrun _) ?_)
    all_goals (go_ret; exact ⟨G, rfl, HFIN.out.next ((Chg.refl S0 _).drew) (fun _ => id), ((Chg.refl S0 w).alloc _).drew⟩)
end Go.Proofs.YbulkdxqmGreatFmt
