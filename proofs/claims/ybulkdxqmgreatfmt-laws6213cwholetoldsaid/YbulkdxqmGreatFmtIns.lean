/- LawS6213CWhole: slices.Insert of one element, where there is room. (Written by one text for the instances.) -/
import Derived.Test.YbulkdxqmGreatFmtArr
import Derived.Shelf.Spec.SlicesInsert
namespace Go.Proofs.YbulkdxqmGreatFmt
set_option linter.unusedVariables false
set_option linter.unusedSimpArgs false
open Go.RowKit

theorem sz23 : (Ybaz.prog.info? 23).map (·.size) = some 1 := by kernel_rfl
theorem szr23 (w : World) : (Go.sizeOf 23).run Ybaz.prog w = .ok 1 w := by kernel_rfl

set_option maxHeartbeats 4000000 in
set_option maxRecDepth 100000 in
theorem ins38_shift (g n c i vb : Nat) (xs vs : List Value) (w : World) (h : Arr w g 23 1 n c xs) (hi : i < n) (hroom : n < c) (hv : Arr w vb 23 1 1 1 vs) (hvb : vb ≠ g) :
    Calls Ybaz.prog 38 #[.slice (some ⟨g, 0, none⟩) n c, .int .i64 i, .slice (some ⟨vb, 0, none⟩) 1 1] w fun e w' => e = .returned (.slice (some ⟨g, 0, none⟩) (n + 1) c) ∧ Arr w' g 23 1 (n + 1) c (insL xs vs (i * 1)) ∧ Chg (fun x _ => x = g) w w' := by
  have hcm := h.cm
  have hlen := h.len
  have hvl : vs.length = 1 := by have := hv.len; omega
  have hz2 : ¬ ((i : Int) = (n : Int)) := by omega
  have hov : ∀ lb cb, (callFunc 61 #[.slice (some ⟨vb, 0, none⟩) 1 1, .slice (some ⟨g, i + 1, none⟩) lb cb]).run Ybaz.prog w = .ok (.value (.bool false)) w := fun lb cb => by
    rw [run_callFunc_extern Ybaz.func61 (by kernel_rfl) (by kernel_rfl) (by kernel_rfl) (e := Extern.SlicesOverlaps.overlaps #[47, 47] #[4]) (by kernel_rfl),
      Lib.run_overlaps_apart w 47 4 23 Ybaz.underlying47 1 szr23 ⟨vb, 0, none⟩ ⟨g, i + 1, none⟩ 1 1 lb cb hvb 23 23 (1 * 1) (c * 1) hv.shp h.shp (by omega) (hv.free 0) (hv.free _)]
    rfl
  have hdl : (xs.drop (i * 1)).length = (n - i) * 1 := by rw [List.length_drop, hlen]; omega
  have hw1 : IntKind.i64.wrap ((i : Int) + 1) = (i : Int) + 1 := by rw [IntKind.wrap_i64]; omega
  have hw2 : IntKind.i64.wrap ((n : Int) + 1) = (n : Int) + 1 := by rw [IntKind.wrap_i64]; omega
  have hb1 : (0 : Int) ≤ (i : Int) + 1 := by omega
  have hin : i ≤ n := by omega
  have htn : ((i : Int) + 1).toNat = i + 1 := by omega
  have hb2 : ¬ (c = i + 1) := by omega
  have hb3 : (i : Int) ≤ (n : Int) + 1 := by omega
  have hb4 : ¬ (c = i) := by omega
  have hb5 : (n : Int) + 1 ≤ (c : Int) := by omega
  have hcp1 : ∀ ty dc sc, (Builtin.copy_ #[47, 47] ty #[.slice (some ⟨g, i + 1, none⟩) (n - i) dc, .slice (some ⟨g, i, none⟩) (n + 1 - i) sc]).run Ybaz.prog w.drew = .ok (goInt (n - i : Nat)) (w.drew.setCells g ((i + 1) * 1) (xs.drop (i * 1))) := fun ty dc sc => by
    have := run_copyK (P := Ybaz.prog) w.drew 47 47 ty 23 1 g ((i + 1) * 1) (n - i) dc ⟨g, i * 1, none⟩ (n + 1 - i) sc (n - i) (xs.drop (i * 1)) Ybaz.underlying47 sz23 (by simp only [Nat.min_def]; split <;> omega) hdl
      (fun j v hj => by rw [Addr.add_lit]; exact h.cell _ v (by rwa [List.getElem?_drop] at hj))
      (fun j hj => h.room _ (by omega)) (fun j hj => h.free _) (fun v hv => h.one v (List.mem_of_mem_drop hv))
    simpa using this
  obtain ⟨W1, hW1⟩ : ∃ W1, W1 = w.drew.setCells g ((i + 1) * 1) (xs.drop (i * 1)) := ⟨_, rfl⟩
  have hC1 : Chg (fun x _ => x = g) w W1 := by rw [hW1]; exact Chg.setCells g _ _ _ (Chg.refl _ w).drew (fun _ _ _ => rfl)
  have hcp2 : ∀ (W : World), (∀ x, W.cell? x = W1.cell? x) → (∀ x, W.frozen? x = W1.frozen? x) → ∀ ty dc, (Builtin.copy_ #[47, 47] ty #[.slice (some ⟨g, i, none⟩) (n + 1 - i) dc, .slice (some ⟨vb, 0, none⟩) 1 1]).run Ybaz.prog W = .ok (goInt 1) (W.setCells g (i * 1) vs) := fun W hWc hWf ty dc => by
    have := run_copyK (P := Ybaz.prog) W 47 47 ty 23 1 g (i * 1) (n + 1 - i) dc ⟨vb, 0, none⟩ 1 1 1 vs Ybaz.underlying47 sz23 (by simp only [Nat.min_def]; split <;> omega) (by omega)
      (fun j v hj => by rw [Addr.add_lit, hWc]; exact hC1.keep (by rw [Nat.zero_add]; exact hv.cell _ v hj) hvb)
      (fun j hj => by rw [hWc]; exact hC1.has _ _ (h.room _ (by omega))) (fun j hj => by rw [hWf]; exact (hC1.froz _ _ h.lt).trans (h.free _)) hv.one
    simpa using this
  have HW1 : Hid (W1 = w.drew.setCells g ((i + 1) * 1) (xs.drop (i * 1))) := hW1
  rw [← hW1] at hcp1
  have HC1 : Hid (Chg (fun x _ => x = g) w W1) := hC1
  have HA : Hid (Arr w g 23 1 n c xs) := h
  have HV : Hid (∀ v ∈ vs, v.oneCell' = true) := hv.one
  have HVL : Hid (vs.length = 1) := hvl
  clear hW1 hC1 hdl hvl hv h hlen
  go_enter Ybaz.func38, Ybaz.ntmps38
  go_wp2_with (simp only [hov])
  go_region_law (refine step_copy_runI rfl _ _ 47 47 rfl _ _ (by simp [Act.eval, Act.put]) (by simp [Act.eval, Act.put]) (hcp1 _ _ _) ?_)
  go_wp2_with (at_builtin; refine wpList_copy_runI _ rfl _ _ 47 47 rfl _ _ rfl rfl (hcp2 _ (fun _ => rfl) (fun _ => rfl) _ _) ?_)
  go_ret
  refine ⟨rfl, HA.out.shift (w0 := w.drew) (Or.inr rfl) hin hroom HVL.out HV.out _ (fun p => ?_) (fun p => ?_) ?_, Chg.setCells g _ _ _ HC1.out (fun _ _ _ => rfl)⟩
  · rw [HW1.out] <;> simp only [Nat.mul_one]
  · rw [World.frozen?_setCells, HW1.out, World.frozen?_setCells]; rfl
  · exact shape_setCells _ _ _ _ _ _ (HC1.out.shp _ _ HA.out.shp)

theorem binfo23 : (Ybaz.prog.info? 23).map (fun i => (i.zero, i.size, i.bytes)) = some (some (.pointer none), 1, 8) := by kernel_rfl
set_option maxHeartbeats 4000000 in
set_option maxRecDepth 100000 in
theorem ins38_end (g n c vb : Nat) (xs vs : List Value) (w : World) (h : Arr w g 23 1 n c xs) (hroom : n < c) (hv : Arr w vb 23 1 1 1 vs) (hvb : vb ≠ g) :
    Calls Ybaz.prog 38 #[.slice (some ⟨g, 0, none⟩) n c, .int .i64 n, .slice (some ⟨vb, 0, none⟩) 1 1] w fun e w' => e = .returned (.slice (some ⟨g, 0, none⟩) (n + 1) c) ∧ Arr w' g 23 1 (n + 1) c (insL xs vs (n * 1)) ∧ Chg (fun x _ => x = g) w w' := by
  have hcm := h.cm
  have hlen := h.len
  have hvl : vs.length = 1 := by have := hv.len; omega
  obtain ⟨i0, hi0, hz0, hzs, hzb⟩ := info_parts binfo23
  have hsrc : Src Ybaz.prog i0.size 47 (.slice (some ⟨vb, 0, none⟩) 1 1) 1 vs w := by
    rw [hzs]
    exact Src.ofSlice w Ybaz.underlying47 ⟨vb, 0, none⟩ 1 1 vs (by omega) (fun j u hj => by rw [Addr.add_lit, Nat.zero_add]; exact hv.cell j u hj) hv.one
  have HA : Hid (Arr w g 23 1 n c xs) := h
  have HVO : Hid (∀ v ∈ vs, v.oneCell' = true) := hv.one
  go_enter Ybaz.func38, Ybaz.ntmps38
  go_wp2_with (at_builtin; refine wpList_append_room_src _ rfl _ _ 47 47 rfl 23 i0 Ybaz.underlying47 hi0 g 0 n c rfl _ rfl 1 vs hsrc hroom (fun j hj => by rw [hzs]; exact h.room _ (by omega)) (fun j hj => h.free _) ?_)
  go_ret
  have hd : xs.drop (n * 1) = [] := List.drop_eq_nil_of_le (by omega)
  refine ⟨rfl, HA.out.shift (w0 := w) (Or.inl rfl) (Nat.le_refl _) hroom hvl HVO.out _ (fun p => ?_) (fun p => ?_) ?_, Chg.setCells g _ _ _ (Chg.refl _ w) (fun _ _ _ => rfl)⟩
  · rw [hd]; first | rfl | (simp only [Nat.mul_one]; rfl)
  · rw [World.frozen?_setCells]
  · exact shape_setCells _ _ _ _ _ _ HA.out.shp

theorem ins38_room (g n c i vb : Nat) (xs vs : List Value) (w : World) (h : Arr w g 23 1 n c xs) (hi : i ≤ n) (hroom : n < c) (hv : Arr w vb 23 1 1 1 vs) (hvb : vb ≠ g) :
    Calls Ybaz.prog 38 #[.slice (some ⟨g, 0, none⟩) n c, .int .i64 i, .slice (some ⟨vb, 0, none⟩) 1 1] w fun e w' => e = .returned (.slice (some ⟨g, 0, none⟩) (n + 1) c) ∧ Arr w' g 23 1 (n + 1) c (insL xs vs (i * 1)) ∧ Chg (fun x _ => x = g) w w' := by
  by_cases e : i = n
  · subst e; exact ins38_end g i c vb xs vs w h hroom hv hvb
  · exact ins38_shift g n c i vb xs vs w h (by omega) hroom hv hvb

theorem sz134 : (Ybaz.prog.info? 134).map (·.size) = some 4 := by kernel_rfl
theorem szr134 (w : World) : (Go.sizeOf 134).run Ybaz.prog w = .ok 4 w := by kernel_rfl

set_option maxHeartbeats 4000000 in
set_option maxRecDepth 100000 in
theorem ins39_shift (g n c i vb : Nat) (xs vs : List Value) (w : World) (h : Arr w g 134 4 n c xs) (hi : i < n) (hroom : n < c) (hv : Arr w vb 134 4 1 1 vs) (hvb : vb ≠ g) :
    Calls Ybaz.prog 39 #[.slice (some ⟨g, 0, none⟩) n c, .int .i64 i, .slice (some ⟨vb, 0, none⟩) 1 1] w fun e w' => e = .returned (.slice (some ⟨g, 0, none⟩) (n + 1) c) ∧ Arr w' g 134 4 (n + 1) c (insL xs vs (i * 4)) ∧ Chg (fun x _ => x = g) w w' := by
  have hcm := h.cm
  have hlen := h.len
  have hvl : vs.length = 4 := by have := hv.len; omega
  have hz2 : ¬ ((i : Int) = (n : Int)) := by omega
  have hov : ∀ lb cb, (callFunc 63 #[.slice (some ⟨vb, 0, none⟩) 1 1, .slice (some ⟨g, (i + 1) * 4, none⟩) lb cb]).run Ybaz.prog w = .ok (.value (.bool false)) w := fun lb cb => by
    rw [run_callFunc_extern Ybaz.func63 (by kernel_rfl) (by kernel_rfl) (by kernel_rfl) (e := Extern.SlicesOverlaps.overlaps #[140, 140] #[4]) (by kernel_rfl),
      Lib.run_overlaps_apart w 140 4 134 Ybaz.underlying140 4 szr134 ⟨vb, 0, none⟩ ⟨g, (i + 1) * 4, none⟩ 1 1 lb cb hvb 134 134 (1 * 4) (c * 4) hv.shp h.shp (by omega) (hv.free 0) (hv.free _)]
    rfl
  have hdl : (xs.drop (i * 4)).length = (n - i) * 4 := by rw [List.length_drop, hlen]; omega
  have hw1 : IntKind.i64.wrap ((i : Int) + 1) = (i : Int) + 1 := by rw [IntKind.wrap_i64]; omega
  have hw2 : IntKind.i64.wrap ((n : Int) + 1) = (n : Int) + 1 := by rw [IntKind.wrap_i64]; omega
  have hb1 : (0 : Int) ≤ (i : Int) + 1 := by omega
  have hin : i ≤ n := by omega
  have htn : ((i : Int) + 1).toNat = i + 1 := by omega
  have hb2 : ¬ (c = i + 1) := by omega
  have hb3 : (i : Int) ≤ (n : Int) + 1 := by omega
  have hb4 : ¬ (c = i) := by omega
  have hb5 : (n : Int) + 1 ≤ (c : Int) := by omega
  have hcp1 : ∀ ty dc sc, (Builtin.copy_ #[140, 140] ty #[.slice (some ⟨g, (i + 1) * 4, none⟩) (n - i) dc, .slice (some ⟨g, i * 4, none⟩) (n + 1 - i) sc]).run Ybaz.prog w.drew = .ok (goInt (n - i : Nat)) (w.drew.setCells g ((i + 1) * 4) (xs.drop (i * 4))) := fun ty dc sc => by
    have := run_copyK (P := Ybaz.prog) w.drew 140 140 ty 134 4 g ((i + 1) * 4) (n - i) dc ⟨g, i * 4, none⟩ (n + 1 - i) sc (n - i) (xs.drop (i * 4)) Ybaz.underlying140 sz134 (by simp only [Nat.min_def]; split <;> omega) hdl
      (fun j v hj => by rw [Addr.add_lit]; exact h.cell _ v (by rwa [List.getElem?_drop] at hj))
      (fun j hj => h.room _ (by omega)) (fun j hj => h.free _) (fun v hv => h.one v (List.mem_of_mem_drop hv))
    simpa using this
  obtain ⟨W1, hW1⟩ : ∃ W1, W1 = w.drew.setCells g ((i + 1) * 4) (xs.drop (i * 4)) := ⟨_, rfl⟩
  have hC1 : Chg (fun x _ => x = g) w W1 := by rw [hW1]; exact Chg.setCells g _ _ _ (Chg.refl _ w).drew (fun _ _ _ => rfl)
  have hcp2 : ∀ (W : World), (∀ x, W.cell? x = W1.cell? x) → (∀ x, W.frozen? x = W1.frozen? x) → ∀ ty dc, (Builtin.copy_ #[140, 140] ty #[.slice (some ⟨g, i * 4, none⟩) (n + 1 - i) dc, .slice (some ⟨vb, 0, none⟩) 1 1]).run Ybaz.prog W = .ok (goInt 1) (W.setCells g (i * 4) vs) := fun W hWc hWf ty dc => by
    have := run_copyK (P := Ybaz.prog) W 140 140 ty 134 4 g (i * 4) (n + 1 - i) dc ⟨vb, 0, none⟩ 1 1 1 vs Ybaz.underlying140 sz134 (by simp only [Nat.min_def]; split <;> omega) (by omega)
      (fun j v hj => by rw [Addr.add_lit, hWc]; exact hC1.keep (by rw [Nat.zero_add]; exact hv.cell _ v hj) hvb)
      (fun j hj => by rw [hWc]; exact hC1.has _ _ (h.room _ (by omega))) (fun j hj => by rw [hWf]; exact (hC1.froz _ _ h.lt).trans (h.free _)) hv.one
    simpa using this
  have HW1 : Hid (W1 = w.drew.setCells g ((i + 1) * 4) (xs.drop (i * 4))) := hW1
  rw [← hW1] at hcp1
  have HC1 : Hid (Chg (fun x _ => x = g) w W1) := hC1
  have HA : Hid (Arr w g 134 4 n c xs) := h
  have HV : Hid (∀ v ∈ vs, v.oneCell' = true) := hv.one
  have HVL : Hid (vs.length = 4) := hvl
  clear hW1 hC1 hdl hvl hv h hlen
  go_enter Ybaz.func39, Ybaz.ntmps39
  go_wp2_with (simp only [hov])
  go_region_law (refine step_copy_runI rfl _ _ 140 140 rfl _ _ (by simp [Act.eval, Act.put]) (by simp [Act.eval, Act.put]) (hcp1 _ _ _) ?_)
  go_wp2_with (at_builtin; refine wpList_copy_runI _ rfl _ _ 140 140 rfl _ _ rfl rfl (hcp2 _ (fun _ => rfl) (fun _ => rfl) _ _) ?_)
  go_ret
  refine ⟨rfl, HA.out.shift (w0 := w.drew) (Or.inr rfl) hin hroom HVL.out HV.out _ (fun p => ?_) (fun p => ?_) ?_, Chg.setCells g _ _ _ HC1.out (fun _ _ _ => rfl)⟩
  · rw [HW1.out] <;> simp only [Nat.mul_one]
  · rw [World.frozen?_setCells, HW1.out, World.frozen?_setCells]; rfl
  · exact shape_setCells _ _ _ _ _ _ (HC1.out.shp _ _ HA.out.shp)

theorem binfo134 : (Ybaz.prog.info? 134).map (fun i => (i.zero, i.size, i.bytes)) = some (some (.agg #[.int .i64 0, .int .i64 0, .int .i64 0, .float .f64 0]), 4, 32) := by kernel_rfl
set_option maxHeartbeats 4000000 in
set_option maxRecDepth 100000 in
theorem ins39_end (g n c vb : Nat) (xs vs : List Value) (w : World) (h : Arr w g 134 4 n c xs) (hroom : n < c) (hv : Arr w vb 134 4 1 1 vs) (hvb : vb ≠ g) :
    Calls Ybaz.prog 39 #[.slice (some ⟨g, 0, none⟩) n c, .int .i64 n, .slice (some ⟨vb, 0, none⟩) 1 1] w fun e w' => e = .returned (.slice (some ⟨g, 0, none⟩) (n + 1) c) ∧ Arr w' g 134 4 (n + 1) c (insL xs vs (n * 4)) ∧ Chg (fun x _ => x = g) w w' := by
  have hcm := h.cm
  have hlen := h.len
  have hvl : vs.length = 4 := by have := hv.len; omega
  obtain ⟨i0, hi0, hz0, hzs, hzb⟩ := info_parts binfo134
  have hsrc : Src Ybaz.prog i0.size 140 (.slice (some ⟨vb, 0, none⟩) 1 1) 1 vs w := by
    rw [hzs]
    exact Src.ofSlice w Ybaz.underlying140 ⟨vb, 0, none⟩ 1 1 vs (by omega) (fun j u hj => by rw [Addr.add_lit, Nat.zero_add]; exact hv.cell j u hj) hv.one
  have HA : Hid (Arr w g 134 4 n c xs) := h
  have HVO : Hid (∀ v ∈ vs, v.oneCell' = true) := hv.one
  go_enter Ybaz.func39, Ybaz.ntmps39
  go_wp2_with (at_builtin; refine wpList_append_room_src _ rfl _ _ 140 140 rfl 134 i0 Ybaz.underlying140 hi0 g 0 n c rfl _ rfl 1 vs hsrc hroom (fun j hj => by rw [hzs]; exact h.room _ (by omega)) (fun j hj => h.free _) ?_)
  go_ret
  have hd : xs.drop (n * 4) = [] := List.drop_eq_nil_of_le (by omega)
  refine ⟨rfl, HA.out.shift (w0 := w) (Or.inl rfl) (Nat.le_refl _) hroom hvl HVO.out _ (fun p => ?_) (fun p => ?_) ?_, Chg.setCells g _ _ _ (Chg.refl _ w) (fun _ _ _ => rfl)⟩
  · rw [hd]; first | rfl | (simp only [Nat.mul_one]; rfl)
  · rw [World.frozen?_setCells]
  · exact shape_setCells _ _ _ _ _ _ HA.out.shp

theorem ins39_room (g n c i vb : Nat) (xs vs : List Value) (w : World) (h : Arr w g 134 4 n c xs) (hi : i ≤ n) (hroom : n < c) (hv : Arr w vb 134 4 1 1 vs) (hvb : vb ≠ g) :
    Calls Ybaz.prog 39 #[.slice (some ⟨g, 0, none⟩) n c, .int .i64 i, .slice (some ⟨vb, 0, none⟩) 1 1] w fun e w' => e = .returned (.slice (some ⟨g, 0, none⟩) (n + 1) c) ∧ Arr w' g 134 4 (n + 1) c (insL xs vs (i * 4)) ∧ Chg (fun x _ => x = g) w w' := by
  by_cases e : i = n
  · subst e; exact ins39_end g i c vb xs vs w h hroom hv hvb
  · exact ins39_shift g n c i vb xs vs w h (by omega) hroom hv hvb

theorem sz25 : (Ybaz.prog.info? 25).map (·.size) = some 1 := by kernel_rfl
theorem szr25 (w : World) : (Go.sizeOf 25).run Ybaz.prog w = .ok 1 w := by kernel_rfl

set_option maxHeartbeats 4000000 in
set_option maxRecDepth 100000 in
theorem ins70_shift (g n c i vb : Nat) (xs vs : List Value) (w : World) (h : Arr w g 25 1 n c xs) (hi : i < n) (hroom : n < c) (hv : Arr w vb 25 1 1 1 vs) (hvb : vb ≠ g) :
    Calls Ybaz.prog 70 #[.slice (some ⟨g, 0, none⟩) n c, .int .i64 i, .slice (some ⟨vb, 0, none⟩) 1 1] w fun e w' => e = .returned (.slice (some ⟨g, 0, none⟩) (n + 1) c) ∧ Arr w' g 25 1 (n + 1) c (insL xs vs (i * 1)) ∧ Chg (fun x _ => x = g) w w' := by
  have hcm := h.cm
  have hlen := h.len
  have hvl : vs.length = 1 := by have := hv.len; omega
  have hz2 : ¬ ((i : Int) = (n : Int)) := by omega
  have hov : ∀ lb cb, (callFunc 86 #[.slice (some ⟨vb, 0, none⟩) 1 1, .slice (some ⟨g, i + 1, none⟩) lb cb]).run Ybaz.prog w = .ok (.value (.bool false)) w := fun lb cb => by
    rw [run_callFunc_extern Ybaz.func86 (by kernel_rfl) (by kernel_rfl) (by kernel_rfl) (e := Extern.SlicesOverlaps.overlaps #[35, 35] #[4]) (by kernel_rfl),
      Lib.run_overlaps_apart w 35 4 25 Ybaz.underlying35 1 szr25 ⟨vb, 0, none⟩ ⟨g, i + 1, none⟩ 1 1 lb cb hvb 25 25 (1 * 1) (c * 1) hv.shp h.shp (by omega) (hv.free 0) (hv.free _)]
    rfl
  have hdl : (xs.drop (i * 1)).length = (n - i) * 1 := by rw [List.length_drop, hlen]; omega
  have hw1 : IntKind.i64.wrap ((i : Int) + 1) = (i : Int) + 1 := by rw [IntKind.wrap_i64]; omega
  have hw2 : IntKind.i64.wrap ((n : Int) + 1) = (n : Int) + 1 := by rw [IntKind.wrap_i64]; omega
  have hb1 : (0 : Int) ≤ (i : Int) + 1 := by omega
  have hin : i ≤ n := by omega
  have htn : ((i : Int) + 1).toNat = i + 1 := by omega
  have hb2 : ¬ (c = i + 1) := by omega
  have hb3 : (i : Int) ≤ (n : Int) + 1 := by omega
  have hb4 : ¬ (c = i) := by omega
  have hb5 : (n : Int) + 1 ≤ (c : Int) := by omega
  have hcp1 : ∀ ty dc sc, (Builtin.copy_ #[35, 35] ty #[.slice (some ⟨g, i + 1, none⟩) (n - i) dc, .slice (some ⟨g, i, none⟩) (n + 1 - i) sc]).run Ybaz.prog w.drew = .ok (goInt (n - i : Nat)) (w.drew.setCells g ((i + 1) * 1) (xs.drop (i * 1))) := fun ty dc sc => by
    have := run_copyK (P := Ybaz.prog) w.drew 35 35 ty 25 1 g ((i + 1) * 1) (n - i) dc ⟨g, i * 1, none⟩ (n + 1 - i) sc (n - i) (xs.drop (i * 1)) Ybaz.underlying35 sz25 (by simp only [Nat.min_def]; split <;> omega) hdl
      (fun j v hj => by rw [Addr.add_lit]; exact h.cell _ v (by rwa [List.getElem?_drop] at hj))
      (fun j hj => h.room _ (by omega)) (fun j hj => h.free _) (fun v hv => h.one v (List.mem_of_mem_drop hv))
    simpa using this
  obtain ⟨W1, hW1⟩ : ∃ W1, W1 = w.drew.setCells g ((i + 1) * 1) (xs.drop (i * 1)) := ⟨_, rfl⟩
  have hC1 : Chg (fun x _ => x = g) w W1 := by rw [hW1]; exact Chg.setCells g _ _ _ (Chg.refl _ w).drew (fun _ _ _ => rfl)
  have hcp2 : ∀ (W : World), (∀ x, W.cell? x = W1.cell? x) → (∀ x, W.frozen? x = W1.frozen? x) → ∀ ty dc, (Builtin.copy_ #[35, 35] ty #[.slice (some ⟨g, i, none⟩) (n + 1 - i) dc, .slice (some ⟨vb, 0, none⟩) 1 1]).run Ybaz.prog W = .ok (goInt 1) (W.setCells g (i * 1) vs) := fun W hWc hWf ty dc => by
    have := run_copyK (P := Ybaz.prog) W 35 35 ty 25 1 g (i * 1) (n + 1 - i) dc ⟨vb, 0, none⟩ 1 1 1 vs Ybaz.underlying35 sz25 (by simp only [Nat.min_def]; split <;> omega) (by omega)
      (fun j v hj => by rw [Addr.add_lit, hWc]; exact hC1.keep (by rw [Nat.zero_add]; exact hv.cell _ v hj) hvb)
      (fun j hj => by rw [hWc]; exact hC1.has _ _ (h.room _ (by omega))) (fun j hj => by rw [hWf]; exact (hC1.froz _ _ h.lt).trans (h.free _)) hv.one
    simpa using this
  have HW1 : Hid (W1 = w.drew.setCells g ((i + 1) * 1) (xs.drop (i * 1))) := hW1
  rw [← hW1] at hcp1
  have HC1 : Hid (Chg (fun x _ => x = g) w W1) := hC1
  have HA : Hid (Arr w g 25 1 n c xs) := h
  have HV : Hid (∀ v ∈ vs, v.oneCell' = true) := hv.one
  have HVL : Hid (vs.length = 1) := hvl
  clear hW1 hC1 hdl hvl hv h hlen
  go_enter Ybaz.func70, Ybaz.ntmps70
  go_wp2_with (simp only [hov])
  go_region_law (refine step_copy_runI rfl _ _ 35 35 rfl _ _ (by simp [Act.eval, Act.put]) (by simp [Act.eval, Act.put]) (hcp1 _ _ _) ?_)
  go_wp2_with (at_builtin; refine wpList_copy_runI _ rfl _ _ 35 35 rfl _ _ rfl rfl (hcp2 _ (fun _ => rfl) (fun _ => rfl) _ _) ?_)
  go_ret
  refine ⟨rfl, HA.out.shift (w0 := w.drew) (Or.inr rfl) hin hroom HVL.out HV.out _ (fun p => ?_) (fun p => ?_) ?_, Chg.setCells g _ _ _ HC1.out (fun _ _ _ => rfl)⟩
  · rw [HW1.out] <;> simp only [Nat.mul_one]
  · rw [World.frozen?_setCells, HW1.out, World.frozen?_setCells]; rfl
  · exact shape_setCells _ _ _ _ _ _ (HC1.out.shp _ _ HA.out.shp)

theorem binfo25 : (Ybaz.prog.info? 25).map (fun i => (i.zero, i.size, i.bytes)) = some (some (.pointer none), 1, 8) := by kernel_rfl
set_option maxHeartbeats 4000000 in
set_option maxRecDepth 100000 in
theorem ins70_end (g n c vb : Nat) (xs vs : List Value) (w : World) (h : Arr w g 25 1 n c xs) (hroom : n < c) (hv : Arr w vb 25 1 1 1 vs) (hvb : vb ≠ g) :
    Calls Ybaz.prog 70 #[.slice (some ⟨g, 0, none⟩) n c, .int .i64 n, .slice (some ⟨vb, 0, none⟩) 1 1] w fun e w' => e = .returned (.slice (some ⟨g, 0, none⟩) (n + 1) c) ∧ Arr w' g 25 1 (n + 1) c (insL xs vs (n * 1)) ∧ Chg (fun x _ => x = g) w w' := by
  have hcm := h.cm
  have hlen := h.len
  have hvl : vs.length = 1 := by have := hv.len; omega
  obtain ⟨i0, hi0, hz0, hzs, hzb⟩ := info_parts binfo25
  have hsrc : Src Ybaz.prog i0.size 35 (.slice (some ⟨vb, 0, none⟩) 1 1) 1 vs w := by
    rw [hzs]
    exact Src.ofSlice w Ybaz.underlying35 ⟨vb, 0, none⟩ 1 1 vs (by omega) (fun j u hj => by rw [Addr.add_lit, Nat.zero_add]; exact hv.cell j u hj) hv.one
  have HA : Hid (Arr w g 25 1 n c xs) := h
  have HVO : Hid (∀ v ∈ vs, v.oneCell' = true) := hv.one
  go_enter Ybaz.func70, Ybaz.ntmps70
  go_wp2_with (at_builtin; refine wpList_append_room_src _ rfl _ _ 35 35 rfl 25 i0 Ybaz.underlying35 hi0 g 0 n c rfl _ rfl 1 vs hsrc hroom (fun j hj => by rw [hzs]; exact h.room _ (by omega)) (fun j hj => h.free _) ?_)
  go_ret
  have hd : xs.drop (n * 1) = [] := List.drop_eq_nil_of_le (by omega)
  refine ⟨rfl, HA.out.shift (w0 := w) (Or.inl rfl) (Nat.le_refl _) hroom hvl HVO.out _ (fun p => ?_) (fun p => ?_) ?_, Chg.setCells g _ _ _ (Chg.refl _ w) (fun _ _ _ => rfl)⟩
  · rw [hd]; first | rfl | (simp only [Nat.mul_one]; rfl)
  · rw [World.frozen?_setCells]
  · exact shape_setCells _ _ _ _ _ _ HA.out.shp

theorem ins70_room (g n c i vb : Nat) (xs vs : List Value) (w : World) (h : Arr w g 25 1 n c xs) (hi : i ≤ n) (hroom : n < c) (hv : Arr w vb 25 1 1 1 vs) (hvb : vb ≠ g) :
    Calls Ybaz.prog 70 #[.slice (some ⟨g, 0, none⟩) n c, .int .i64 i, .slice (some ⟨vb, 0, none⟩) 1 1] w fun e w' => e = .returned (.slice (some ⟨g, 0, none⟩) (n + 1) c) ∧ Arr w' g 25 1 (n + 1) c (insL xs vs (i * 1)) ∧ Chg (fun x _ => x = g) w w' := by
  by_cases e : i = n
  · subst e; exact ins70_end g i c vb xs vs w h hroom hv hvb
  · exact ins70_shift g n c i vb xs vs w h (by omega) hroom hv hvb

theorem sz103 : (Ybaz.prog.info? 103).map (·.size) = some 2 := by kernel_rfl
theorem szr103 (w : World) : (Go.sizeOf 103).run Ybaz.prog w = .ok 2 w := by kernel_rfl

set_option maxHeartbeats 4000000 in
set_option maxRecDepth 100000 in
theorem ins45_shift (g n c i vb : Nat) (xs vs : List Value) (w : World) (h : Arr w g 103 2 n c xs) (hi : i < n) (hroom : n < c) (hv : Arr w vb 103 2 1 1 vs) (hvb : vb ≠ g) :
    Calls Ybaz.prog 45 #[.slice (some ⟨g, 0, none⟩) n c, .int .i64 i, .slice (some ⟨vb, 0, none⟩) 1 1] w fun e w' => e = .returned (.slice (some ⟨g, 0, none⟩) (n + 1) c) ∧ Arr w' g 103 2 (n + 1) c (insL xs vs (i * 2)) ∧ Chg (fun x _ => x = g) w w' := by
  have hcm := h.cm
  have hlen := h.len
  have hvl : vs.length = 2 := by have := hv.len; omega
  have hz2 : ¬ ((i : Int) = (n : Int)) := by omega
  have hov : ∀ lb cb, (callFunc 71 #[.slice (some ⟨vb, 0, none⟩) 1 1, .slice (some ⟨g, (i + 1) * 2, none⟩) lb cb]).run Ybaz.prog w = .ok (.value (.bool false)) w := fun lb cb => by
    rw [run_callFunc_extern Ybaz.func71 (by kernel_rfl) (by kernel_rfl) (by kernel_rfl) (e := Extern.SlicesOverlaps.overlaps #[45, 45] #[4]) (by kernel_rfl),
      Lib.run_overlaps_apart w 45 4 103 Ybaz.underlying45 2 szr103 ⟨vb, 0, none⟩ ⟨g, (i + 1) * 2, none⟩ 1 1 lb cb hvb 103 103 (1 * 2) (c * 2) hv.shp h.shp (by omega) (hv.free 0) (hv.free _)]
    rfl
  have hdl : (xs.drop (i * 2)).length = (n - i) * 2 := by rw [List.length_drop, hlen]; omega
  have hw1 : IntKind.i64.wrap ((i : Int) + 1) = (i : Int) + 1 := by rw [IntKind.wrap_i64]; omega
  have hw2 : IntKind.i64.wrap ((n : Int) + 1) = (n : Int) + 1 := by rw [IntKind.wrap_i64]; omega
  have hb1 : (0 : Int) ≤ (i : Int) + 1 := by omega
  have hin : i ≤ n := by omega
  have htn : ((i : Int) + 1).toNat = i + 1 := by omega
  have hb2 : ¬ (c = i + 1) := by omega
  have hb3 : (i : Int) ≤ (n : Int) + 1 := by omega
  have hb4 : ¬ (c = i) := by omega
  have hb5 : (n : Int) + 1 ≤ (c : Int) := by omega
  have hcp1 : ∀ ty dc sc, (Builtin.copy_ #[46, 46] ty #[.slice (some ⟨g, (i + 1) * 2, none⟩) (n - i) dc, .slice (some ⟨g, i * 2, none⟩) (n + 1 - i) sc]).run Ybaz.prog w.drew = .ok (goInt (n - i : Nat)) (w.drew.setCells g ((i + 1) * 2) (xs.drop (i * 2))) := fun ty dc sc => by
    have := run_copyK (P := Ybaz.prog) w.drew 46 46 ty 103 2 g ((i + 1) * 2) (n - i) dc ⟨g, i * 2, none⟩ (n + 1 - i) sc (n - i) (xs.drop (i * 2)) Ybaz.underlying46 sz103 (by simp only [Nat.min_def]; split <;> omega) hdl
      (fun j v hj => by rw [Addr.add_lit]; exact h.cell _ v (by rwa [List.getElem?_drop] at hj))
      (fun j hj => h.room _ (by omega)) (fun j hj => h.free _) (fun v hv => h.one v (List.mem_of_mem_drop hv))
    simpa using this
  obtain ⟨W1, hW1⟩ : ∃ W1, W1 = w.drew.setCells g ((i + 1) * 2) (xs.drop (i * 2)) := ⟨_, rfl⟩
  have hC1 : Chg (fun x _ => x = g) w W1 := by rw [hW1]; exact Chg.setCells g _ _ _ (Chg.refl _ w).drew (fun _ _ _ => rfl)
  have hcp2 : ∀ (W : World), (∀ x, W.cell? x = W1.cell? x) → (∀ x, W.frozen? x = W1.frozen? x) → ∀ ty dc, (Builtin.copy_ #[46, 45] ty #[.slice (some ⟨g, i * 2, none⟩) (n + 1 - i) dc, .slice (some ⟨vb, 0, none⟩) 1 1]).run Ybaz.prog W = .ok (goInt 1) (W.setCells g (i * 2) vs) := fun W hWc hWf ty dc => by
    have := run_copyK (P := Ybaz.prog) W 46 45 ty 103 2 g (i * 2) (n + 1 - i) dc ⟨vb, 0, none⟩ 1 1 1 vs Ybaz.underlying46 sz103 (by simp only [Nat.min_def]; split <;> omega) (by omega)
      (fun j v hj => by rw [Addr.add_lit, hWc]; exact hC1.keep (by rw [Nat.zero_add]; exact hv.cell _ v hj) hvb)
      (fun j hj => by rw [hWc]; exact hC1.has _ _ (h.room _ (by omega))) (fun j hj => by rw [hWf]; exact (hC1.froz _ _ h.lt).trans (h.free _)) hv.one
    simpa using this
  have HW1 : Hid (W1 = w.drew.setCells g ((i + 1) * 2) (xs.drop (i * 2))) := hW1
  rw [← hW1] at hcp1
  have HC1 : Hid (Chg (fun x _ => x = g) w W1) := hC1
  have HA : Hid (Arr w g 103 2 n c xs) := h
  have HV : Hid (∀ v ∈ vs, v.oneCell' = true) := hv.one
  have HVL : Hid (vs.length = 2) := hvl
  clear hW1 hC1 hdl hvl hv h hlen
  go_enter Ybaz.func45, Ybaz.ntmps45
  go_wp2_with (simp only [hov])
  go_region_law (refine step_copy_runI rfl _ _ 46 46 rfl _ _ (by simp [Act.eval, Act.put]) (by simp [Act.eval, Act.put]) (hcp1 _ _ _) ?_)
  go_wp2_with (at_builtin; refine wpList_copy_runI _ rfl _ _ 46 45 rfl _ _ rfl rfl (hcp2 _ (fun _ => rfl) (fun _ => rfl) _ _) ?_)
  go_ret
  refine ⟨rfl, HA.out.shift (w0 := w.drew) (Or.inr rfl) hin hroom HVL.out HV.out _ (fun p => ?_) (fun p => ?_) ?_, Chg.setCells g _ _ _ HC1.out (fun _ _ _ => rfl)⟩
  · rw [HW1.out] <;> simp only [Nat.mul_one]
  · rw [World.frozen?_setCells, HW1.out, World.frozen?_setCells]; rfl
  · exact shape_setCells _ _ _ _ _ _ (HC1.out.shp _ _ HA.out.shp)

theorem binfo103 : (Ybaz.prog.info? 103).map (fun i => (i.zero, i.size, i.bytes)) = some (some (.agg #[.int .i64 0, .int .i64 0]), 2, 16) := by kernel_rfl
set_option maxHeartbeats 4000000 in
set_option maxRecDepth 100000 in
theorem ins45_end (g n c vb : Nat) (xs vs : List Value) (w : World) (h : Arr w g 103 2 n c xs) (hroom : n < c) (hv : Arr w vb 103 2 1 1 vs) (hvb : vb ≠ g) :
    Calls Ybaz.prog 45 #[.slice (some ⟨g, 0, none⟩) n c, .int .i64 n, .slice (some ⟨vb, 0, none⟩) 1 1] w fun e w' => e = .returned (.slice (some ⟨g, 0, none⟩) (n + 1) c) ∧ Arr w' g 103 2 (n + 1) c (insL xs vs (n * 2)) ∧ Chg (fun x _ => x = g) w w' := by
  have hcm := h.cm
  have hlen := h.len
  have hvl : vs.length = 2 := by have := hv.len; omega
  obtain ⟨i0, hi0, hz0, hzs, hzb⟩ := info_parts binfo103
  have hsrc : Src Ybaz.prog i0.size 45 (.slice (some ⟨vb, 0, none⟩) 1 1) 1 vs w := by
    rw [hzs]
    exact Src.ofSlice w Ybaz.underlying45 ⟨vb, 0, none⟩ 1 1 vs (by omega) (fun j u hj => by rw [Addr.add_lit, Nat.zero_add]; exact hv.cell j u hj) hv.one
  have HA : Hid (Arr w g 103 2 n c xs) := h
  have HVO : Hid (∀ v ∈ vs, v.oneCell' = true) := hv.one
  go_enter Ybaz.func45, Ybaz.ntmps45
  go_wp2_with (at_builtin; refine wpList_append_room_src _ rfl _ _ 46 45 rfl 103 i0 Ybaz.underlying46 hi0 g 0 n c rfl _ rfl 1 vs hsrc hroom (fun j hj => by rw [hzs]; exact h.room _ (by omega)) (fun j hj => h.free _) ?_)
  go_ret
  have hd : xs.drop (n * 2) = [] := List.drop_eq_nil_of_le (by omega)
  refine ⟨rfl, HA.out.shift (w0 := w) (Or.inl rfl) (Nat.le_refl _) hroom hvl HVO.out _ (fun p => ?_) (fun p => ?_) ?_, Chg.setCells g _ _ _ (Chg.refl _ w) (fun _ _ _ => rfl)⟩
  · rw [hd]; first | rfl | (simp only [Nat.mul_one]; rfl)
  · rw [World.frozen?_setCells]
  · exact shape_setCells _ _ _ _ _ _ HA.out.shp

theorem ins45_room (g n c i vb : Nat) (xs vs : List Value) (w : World) (h : Arr w g 103 2 n c xs) (hi : i ≤ n) (hroom : n < c) (hv : Arr w vb 103 2 1 1 vs) (hvb : vb ≠ g) :
    Calls Ybaz.prog 45 #[.slice (some ⟨g, 0, none⟩) n c, .int .i64 i, .slice (some ⟨vb, 0, none⟩) 1 1] w fun e w' => e = .returned (.slice (some ⟨g, 0, none⟩) (n + 1) c) ∧ Arr w' g 103 2 (n + 1) c (insL xs vs (i * 2)) ∧ Chg (fun x _ => x = g) w w' := by
  by_cases e : i = n
  · subst e; exact ins45_end g i c vb xs vs w h hroom hv hvb
  · exact ins45_shift g n c i vb xs vs w h (by omega) hroom hv hvb
end Go.Proofs.YbulkdxqmGreatFmt
