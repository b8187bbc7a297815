/- LawS6213CWhole: split of a leaf. -/
import Derived.Test.YbulkdxqmGreatFmtSplitR
import Derived.Test.YbulkdxqmGreatFmtLeaf
import Derived.Test.YbulkdxqmGreatFmtCutL
import Derived.Test.YbulkdxqmGreatFmtCutLR
import Derived.Test.YbulkdxqmGreatFmtPut
namespace Go.Proofs.YbulkdxqmGreatFmt
set_option linter.unusedVariables false
set_option linter.unusedSimpArgs false
open Go.RowKit
attribute [local go_sem] run_store_floatB

/-- A row made by the call and filled, k cells an element. -/
theorem Arr.filledK (w1 : World) (g e k n c m : Nat) (z : Array Value) (xs : List Value) (hg : g = w1.heap.size) (hl : xs.length = n * k) (hm : m = c * k) (hnc : n ≤ c) (hc : c ≤ 1000) (h1 : ∀ v ∈ xs, v.oneCell' = true) : Arr ((w1.alloc (.cells (madeCells z m) e)).setCells g 0 xs) g e k n c xs := by
  subst hg hm
  have h0 := Arr.fresh0 w1 e k c (c * k) z rfl hc
  have hnk : n * k ≤ c * k := Nat.mul_le_mul_right k hnc
  refine ⟨fun j v hj => ?_, fun j hj => has_setCells _ _ _ _ _ _ (h0.room j hj), fun j => by rw [World.frozen?_setCells]; exact h0.free j, shape_setCells _ _ _ _ _ _ h0.shp, hl, hnc, h0.cm, h1⟩
  have hjl := (List.getElem?_eq_some_iff.1 hj).1
  have := World.cell?_setCells_in w1.heap.size xs 0 (w1.alloc (.cells (madeCells z (c * k)) e)) (fun t ht => h0.room _ (by omega)) j hjl
  rw [Nat.zero_add] at this
  rw [this, ← List.getElem?_eq_getElem]; exact hj

theorem setCells_size (b : Nat) : ∀ (vs : List Value) (o : Nat) (w : World), (w.setCells b o vs).heap.size = w.heap.size
  | [], _, _ => rfl
  | v :: r, o, w => by
    show ((w.setCell ⟨b, o, none⟩ v).setCells b (o + 1) r).heap.size = _
    rw [setCells_size b r (o + 1)]; simp

theorem Arr.cutTo {w w' : World} {X : Nat → Nat → Prop} {g e k n c : Nat} {xs : List Value} (h : Arr w g e k n c xs) (hc : Chg X w w') (m : Nat) (hm : m ≤ n) (hX : ∀ j, j < m * k → ¬ X g j) : Arr w' g e k m c (xs.take (m * k)) := by
  refine ⟨fun j v hj => ?_, fun j hj => hc.has g j (h.room j hj), fun j => (hc.froz g j h.lt).trans (h.free j), hc.shp _ _ h.shp, by rw [List.length_take, h.len]; exact Nat.min_eq_left (Nat.mul_le_mul_right k hm), by have := h.nc; omega, h.cm, fun v hv => h.one v (List.mem_of_mem_take hv)⟩
  rw [List.getElem?_take] at hj
  split at hj
  · rename_i hjl
    exact hc.keep (h.cell j v hj) (hX j hjl)
  · cases hj

/-- What the split of a leaf leaves. -/
def SplitLPost (w : World) (G : Gh) (b qb qo sl : Nat) (e : Ending) (w' : World) : Prop :=
  e = .returned (.tuple #[]) ∧ ∃ G' root', Inv w' G' none root' ∧ G'.flat = G.flat ∧ QAt w' qb qo sl root' ∧ Chg (fun x j => G.R x ≠ none ∨ (x = qb ∧ j = qo + 3) ∨ (x ∈ G.J b ∧ j = sl)) w w' ∧ (∀ x, x < w.heap.size → (G'.R x = none ↔ G.R x = none)) ∧ ∀ x p, G.R x = none → x ≠ qb → w.cell? ⟨x, sl, none⟩ = some (ptr p) → ∃ p', w'.cell? ⟨x, sl, none⟩ = some (ptr p')

set_option maxHeartbeats 8000000 in
set_option maxRecDepth 100000 in
theorem split_leaf (G : Gh) (w : World) (b root qb qo sl : Nat) (last : Bool) (hI : Inv w G (some b) root) (hbL : b ∈ G.L 0) (hJ17 : (G.J b).length = 17) (hq : QAt w qb qo sl root) (hRq : G.R qb = none) (hsl : sl < 3)
    (hjob : ∀ k ∈ G.J b, G.R k = none ∧ k ≠ qb ∧ Plain w k 32 ∧ (w.cell? ⟨k, sl, none⟩).isSome = true) :
    Calls Ybaz.prog 42 #[.pointer (some ⟨qb, qo, none⟩), .pointer (some ⟨b, 0, none⟩), .bool last] w (SplitLPost w G b qb qo sl) := by
  have hb := hI.leaf b hbL
  obtain ⟨ob1, ob2, ob3⟩ := hI.shape.own 0 (by omega) b hbL
  have ob3 := ob3 rfl
  have hbA : b ≠ G.A b := fun e => by rw [← e, ob1] at ob2; injection ob2 with e2; injection e2 with e3 e4; cases e4
  have hbS : b ≠ G.S b := fun e => by rw [← e, ob1] at ob3; injection ob3 with e2; injection e2 with e3 e4; cases e4
  have hAS : G.A b ≠ G.S b := fun e => by rw [e, ob3] at ob2; injection ob2 with e2; injection e2 with e3 e4; cases e4
  have hqb : qb ≠ b ∧ qb ≠ G.A b ∧ qb ≠ G.S b := ⟨(fun e => by rw [e, ob1] at hRq; cases hRq), (fun e => by rw [e, ob2] at hRq; cases hRq), (fun e => by rw [e, ob3] at hRq; cases hRq)⟩
  have hkid : ∀ k ∈ G.J b, k ≠ b ∧ k ≠ G.A b ∧ k ≠ G.S b ∧ k ≠ qb ∧ Plain w k 32 ∧ (w.cell? ⟨k, sl, none⟩).isSome = true := fun k hk => by
    obtain ⟨r0, r1, r2, r3⟩ := hjob k hk
    refine ⟨fun e => ?_, fun e => ?_, fun e => ?_, r1, r2, r3⟩
    · rw [e, ob1] at r0; cases r0
    · rw [e, ob2] at r0; cases r0
    · rw [e, ob3] at r0; cases r0
  have hF0 : (G.J b).head? = some (G.F b) := (hI.shape.leaf b hbL).2.2
  have HI : Hid (Inv w G (some b) root) := hI
  have HRQ : Hid (G.R qb = none) := hRq
  have HBL : Hid (b ∈ G.L 0) := hbL
  have HJR : Hid (∀ k ∈ G.J b, G.R k = none) := fun k hk => (hjob k hk).1
  obtain ⟨U, hU⟩ : ∃ U, Hid (U = G.U b) := ⟨_, rfl⟩
  obtain ⟨F, hFe⟩ : ∃ F, Hid (F = G.F b) := ⟨_, rfl⟩
  obtain ⟨A, hA⟩ : ∃ A, Hid (A = G.A b) := ⟨_, rfl⟩
  obtain ⟨S, hS⟩ : ∃ S, Hid (S = G.S b) := ⟨_, rfl⟩
  obtain ⟨J, hJe⟩ : ∃ J, Hid (J = G.J b) := ⟨_, rfl⟩
  rw [← hU.out, ← hFe.out, ← hA.out, ← hS.out, ← hJe.out] at hb
  rw [← hJe.out] at hJ17 hkid hF0
  rw [← hFe.out] at hF0
  rw [← hA.out] at hbA hqb hkid hAS
  rw [← hS.out] at hbS hqb hkid hAS
  have hJ := hJ17
  clear hJ17 hI hbL ob1 ob2 ob3 hRq hjob
  have q2 := fun (w : World) (a : Option Addr) (n c n' c' : Nat) => Lib.run_eql_slice_nil (P := Ybaz.prog) w _ _ a n c n' c' Ybaz.underlying35
  obtain ⟨at', hat⟩ : ∃ at' : Nat, Hid (at' = if last then 16 else 8) := ⟨_, rfl⟩
  have hat2 : 0 < at' ∧ at' < 17 := by have := hat.out; cases last <;> simp at this <;> omega
  obtain ⟨p, hp⟩ := upv_ptr U
  have c0 := hb.node.c0
  rw [hp] at c0
  have c1 := hb.c1
  have c2 := hb.c2
  have c3 := hb.c3
  rw [hJ] at c2 c3
  have HB : Hid (LeafAt w U F A S J b) := hb
  obtain ⟨xs, hxa, hxs⟩ := hb.sa
  rw [hJ] at hxa hxs
  have HXA : Hid (Arr w S 134 4 17 17 xs) := hxa
  have HXS : Hid (SpL 17 xs) := hxs
  have HJA : Hid (Arr w A 23 1 17 17 (J.map ptr)) := by have := hb.ja; rwa [hJ] at this
  have HKD : Hid (∀ k ∈ J, k ≠ b ∧ k ≠ A ∧ k ≠ S ∧ k ≠ qb ∧ Plain w k 32 ∧ (w.cell? ⟨k, sl, none⟩).isSome = true) := hkid
  have HF0 : Hid (J.head? = some F) := hF0
  clear hkid hF0
  have HQ : Hid (QAt w qb qo sl root) := hq
  have hbw : b < w.heap.size := hb.node.pl.lt
  have hAw : A < w.heap.size := hb.ja.lt
  have hSw : S < w.heap.size := hxa.lt
  have m1 := mk47
  have m2 := mk140
  obtain ⟨i0, hi0, hz0, hzs, hzb⟩ := info_parts binfo23
  obtain ⟨i4, hi4, hz04, hzs4, hzb4⟩ := info_parts binfo134
  clear hb hq hxa hxs
  go_enter Ybaz.func42, Ybaz.ntmps42
  go_upto_if 17 with (first | (go_at_call 55; refine (size55_leaf b 17 17 (some ⟨A, 0, none⟩) _ c1 c2).mono ?_; rintro e w1 ⟨rfl, hw⟩; obtain rfl : w = w1 := hw.symm) | go_in)
  go_cut [6] from 14 to 17 (fun v wx => v = .int .i64 at' ∧ w = wx)
  case first =>
    cases last with
    | true =>
      go_wp2_with (first | (go_at_call 67; refine (most67_leaf b _ c1).mono ?_; rintro e w1 ⟨rfl, hw⟩; obtain rfl : w = w1 := hw.symm) | go_in)
      go_meet
      case rel => exact ⟨by rw [hat.out]; rfl, rfl⟩
    | false =>
      go_wp2
      go_meet
      case rel => exact ⟨by rw [hat.out]; rfl, rfl⟩
  case rest =>
    obtain ⟨rfl, rfl⟩ := hcut
    go_upto_region 5 with fail
    obtain ⟨w1, hw1⟩ : ∃ w1, w1 = w.alloc (.cells #[Value.pointer p, Value.slice none 0 0, Value.slice none 0 0, Value.slice none 0 0, Value.pointer none,
          Value.int IntKind.i64 0, Value.int IntKind.i64 0, Value.int IntKind.i64 0, Value.float FloatKind.f64 0,
          Value.int IntKind.i64 0, Value.int IntKind.i64 0, Value.int IntKind.i64 0, Value.int IntKind.i64 0,
          Value.int IntKind.i64 0, Value.float FloatKind.f64 0, Value.float FloatKind.f64 0,
          Value.float FloatKind.f64 0, Value.float FloatKind.f64 0, Value.float FloatKind.f64 0,
          Value.float FloatKind.f64 0, Value.float FloatKind.f64 0, Value.float FloatKind.f64 0, Value.pointer none,
          Value.bool false] 142) := ⟨_, rfl⟩
    obtain ⟨H, hH⟩ : ∃ H, H = w.heap.size := ⟨_, rfl⟩
    have hz1 : w1.heap.size = H + 1 := by rw [hw1, hH]; simp
    have hcell : ∀ j v, (#[Value.pointer p, Value.slice none 0 0, Value.slice none 0 0, Value.slice none 0 0, Value.pointer none,
          Value.int IntKind.i64 0, Value.int IntKind.i64 0, Value.int IntKind.i64 0, Value.float FloatKind.f64 0,
          Value.int IntKind.i64 0, Value.int IntKind.i64 0, Value.int IntKind.i64 0, Value.int IntKind.i64 0,
          Value.int IntKind.i64 0, Value.float FloatKind.f64 0, Value.float FloatKind.f64 0,
          Value.float FloatKind.f64 0, Value.float FloatKind.f64 0, Value.float FloatKind.f64 0,
          Value.float FloatKind.f64 0, Value.float FloatKind.f64 0, Value.float FloatKind.f64 0, Value.pointer none,
          Value.bool false] : Array Value)[j]? = some v → w1.cell? ⟨H, j, none⟩ = some v := fun j v hj => by
      rw [hw1, hH, cell_of_row _ _ _ _ _ _ (heap_alloc_new _ _)]; exact hj
    have e0 := hcell 0 _ rfl
    have e1 := hcell 1 _ rfl
    have e2 := hcell 2 _ rfl
    have e3 := hcell 3 _ rfl
    have e4 := hcell 4 _ rfl
    have e5 := hcell 5 _ rfl
    have e6 := hcell 6 _ rfl
    have e7 := hcell 7 _ rfl
    have e8 := hcell 8 _ rfl
    have e9 := hcell 9 _ rfl
    have e23 := hcell 23 _ rfl
    have HP1 : Hid (Plain w1 H 142) := ⟨_, by rw [hw1, hH]; exact heap_alloc_new _ _⟩
    have HC1 : Hid (Chg S0 w w1) := by rw [hw1]; exact (Chg.refl S0 w).alloc _
    have d2 := HC1.out.keep c2 id
    have f2 := HP1.out.free 2
    rw [← hw1, ← hH]
    have HH : Hid (H = w.heap.size) := hH
    have hHw : H < w1.heap.size := by omega
    have hb1 : b < w1.heap.size := by omega
    have HE : Hid (w1.cell? ⟨H, 0, none⟩ = some (.pointer p) ∧ w1.cell? ⟨H, 1, none⟩ = some (.slice none 0 0) ∧ w1.cell? ⟨H, 3, none⟩ = some (.slice none 0 0) ∧ w1.cell? ⟨H, 4, none⟩ = some (.pointer none) ∧ Ex4 w1 H 5 ∧ w1.cell? ⟨H, 9, none⟩ = some (.int .i64 0) ∧ w1.cell? ⟨H, 23, none⟩ = some (.bool false)) := ⟨e0, e1, e3, e4, ⟨_, _, _, _, e5, e6, e7, e8⟩, e9, e23⟩
    have hsrc : ∀ (o : Obj) j u, ((J.map ptr).drop at')[j]? = some u → (w1.alloc o).cell? ((⟨A, at', none⟩ : Addr).add j) = some u := fun o j u hj => by
      rw [Addr.add_lit]
      have hc := HJA.out.cell (at' + j) u (by rwa [List.getElem?_drop] at hj)
      exact ((Chg.refl S0 w1).alloc o).keep (HC1.out.keep hc id) id
    have hone : ∀ u ∈ (J.map ptr).drop at', u.oneCell' = true := fun u hu => HJA.out.one u (List.mem_of_mem_drop hu)
    have hlen : ((J.map ptr).drop at').length = (17 - at') * 1 := by simp [hJ]
    have hsp : ∀ j, j < ((J.map ptr).drop at').length → ((w1.alloc (.cells (madeCells #[.pointer none] 17) 23)).cell? ⟨H + 1, 0 + 0 * 1 + j, none⟩).isSome = true ∧ (w1.alloc (.cells (madeCells #[.pointer none] 17) 23)).frozen? ⟨H + 1, 0 + 0 * 1 + j, none⟩ = false := fun j hj => by
      rw [← hz1]
      have := Arr.fresh0 w1 23 1 17 17 #[.pointer none] rfl (by omega)
      exact ⟨this.room _ (by rw [hlen] at hj; omega), this.free _⟩
    have d2a : ∀ o, (w1.alloc o).cell? ⟨b, 2, none⟩ = some (.slice (some ⟨A, 0, none⟩) 17 17) := fun o => ((Chg.refl S0 w1).alloc o).keep d2 id
    have d2s : ∀ o n vs, ((w1.alloc o).drew.setCells (H + 1) n vs).cell? ⟨b, 2, none⟩ = some (.slice (some ⟨A, 0, none⟩) 17 17) := fun o n vs => by rw [World.cell?_setCells_out _ _ _ _ _ (fun e _ => absurd e (by show b ≠ H + 1; omega))]; exact d2a o
    have e2s : ∀ o n vs, ((w1.alloc o).drew.setCells (H + 1) n vs).cell? ⟨H, 2, none⟩ = some (.slice none 0 0) := fun o n vs => by rw [World.cell?_setCells_out _ _ _ _ _ (fun e _ => absurd e (by show H ≠ H + 1; omega))]; exact ((Chg.refl S0 w1).alloc o).keep e2 id
    have f2s : ∀ o n vs, ((w1.alloc o).drew.setCells (H + 1) n vs).frozen? ⟨H, 2, none⟩ = false := fun o n vs => by rw [World.frozen?_setCells]; exact (((Chg.refl S0 w1).alloc o).froz H 2 (by omega)).trans f2
    have k1 : ¬ (17 = at') := by omega
    have k2 : (at' : Int) ≤ 17 := by omega
    have k3 : at' ≤ 17 := by omega
    have HPP : Hid (upv U = .pointer p) := hp
    clear hcell e0 e1 e3 e4 e5 e6 e7 e8 e9 e23 hw1 hH c0 hp
    go_cut [] from 31 to 41 (fun wx => Chg (fun x j => x = H ∧ j = 2) w1 wx ∧ wx.cell? ⟨H, 2, none⟩ = some (.slice (some ⟨H + 1, 0, none⟩) (17 - at') 17) ∧ Arr wx (H + 1) 23 1 (17 - at') 17 ((J.map ptr).drop at') ∧ wx.heap.size = H + 2)
    case first =>
      go_region_law (refine step_append_room rfl (.tmp 32) (.tmp 38) 47 rfl 23 i0 1 Ybaz.underlying47 hi0 hzs (H + 1) 0 0 17 (by simp [Act.eval, Act.put, hz1]) ⟨A, at', none⟩ (17 - at') (17 - at') ((J.map ptr).drop at') (by simp [Act.eval, Act.put]) hlen (hsrc _) hone (by omega) hsp ?_)
      all_goals (first | go_meet | (go_wp2; go_meet))
      all_goals (case rel => exact ⟨((Chg.setCells (H + 1) _ _ _ (((Chg.refl _ w1).alloc _).drew) (fun hb => absurd hb (by omega))).set H 2 _ (fun _ => ⟨rfl, rfl⟩)), World.cell?_setCell_same _ _ _ (e2s _ _ _), by rw [← drew_setCells]; exact (Arr.filledK w1 (H + 1) 23 1 (17 - at') 17 17 #[.pointer none] ((J.map ptr).drop at') hz1.symm hlen rfl (by omega) (by omega) hone).next (((Chg.refl (fun x _ => x = H) _).drew).set H 2 _ (fun _ => rfl)) (fun j e => by have : H + 1 = H := e; omega), by simp [setCells_size, hz1]⟩)
    case rest =>
      rename World => w2
      obtain ⟨hc2, hk2, ha2, hz2⟩ := hcut
      have HC2 : Hid (Chg S0 w w2) := HC1.out.trans hc2 (fun x j hx e => by have := e.1; have := HH.out; omega)
      have HCC : Hid (Chg (fun x j => x = H ∧ j = 2) w1 w2) := hc2
      have HKA : Hid (Arr w2 (H + 1) 23 1 (17 - at') 17 ((J.map ptr).drop at')) := ha2
      have d3 := HC2.out.keep c3 id
      have hb2 : b < w2.heap.size := by omega
      have e3 := HCC.out.keep HE.out.2.2.1 (fun e => by have := e.2; omega)
      have f3 := (HCC.out.pln _ _ HP1.out).free 3
      have hsrc4 : ∀ (o : Obj) j u, (xs.drop (at' * 4))[j]? = some u → (w2.alloc o).cell? ((⟨S, at' * 4, none⟩ : Addr).add j) = some u := fun o j u hj => by
        rw [Addr.add_lit]
        have hc := HXA.out.cell (at' * 4 + j) u (by rwa [List.getElem?_drop] at hj)
        exact ((Chg.refl S0 w2).alloc o).keep (HC2.out.keep hc id) id
      have hone4 : ∀ u ∈ xs.drop (at' * 4), u.oneCell' = true := fun u hu => HXA.out.one u (List.mem_of_mem_drop hu)
      have hlen4 : (xs.drop (at' * 4)).length = (17 - at') * 4 := by rw [List.length_drop, HXA.out.len]; omega
      have hsp4 : ∀ j, j < (xs.drop (at' * 4)).length → ((w2.alloc (.cells (madeCells #[.int .i64 0, .int .i64 0, .int .i64 0, .float .f64 0] 68) 134)).cell? ⟨H + 2, 0 + 0 * 4 + j, none⟩).isSome = true ∧ (w2.alloc (.cells (madeCells #[.int .i64 0, .int .i64 0, .int .i64 0, .float .f64 0] 68) 134)).frozen? ⟨H + 2, 0 + 0 * 4 + j, none⟩ = false := fun j hj => by
        rw [← hz2]
        have := Arr.fresh0 w2 134 4 17 68 #[.int .i64 0, .int .i64 0, .int .i64 0, .float .f64 0] rfl (by omega)
        exact ⟨this.room _ (by rw [hlen4] at hj; omega), this.free _⟩
      have d3a : ∀ o, (w2.alloc o).cell? ⟨b, 3, none⟩ = some (.slice (some ⟨S, 0, none⟩) 17 17) := fun o => ((Chg.refl S0 w2).alloc o).keep d3 id
      have d3s : ∀ o n vs, ((w2.alloc o).drew.setCells (H + 2) n vs).cell? ⟨b, 3, none⟩ = some (.slice (some ⟨S, 0, none⟩) 17 17) := fun o n vs => by rw [World.cell?_setCells_out _ _ _ _ _ (fun e _ => absurd e (by show b ≠ H + 2; omega))]; exact d3a o
      have e3s : ∀ o n vs, ((w2.alloc o).drew.setCells (H + 2) n vs).cell? ⟨H, 3, none⟩ = some (.slice none 0 0) := fun o n vs => by rw [World.cell?_setCells_out _ _ _ _ _ (fun e _ => absurd e (by show H ≠ H + 2; omega))]; exact ((Chg.refl S0 w2).alloc o).keep e3 id
      have f3s : ∀ o n vs, ((w2.alloc o).drew.setCells (H + 2) n vs).frozen? ⟨H, 3, none⟩ = false := fun o n vs => by rw [World.frozen?_setCells]; exact (((Chg.refl S0 w2).alloc o).froz H 3 (by omega)).trans f3
      clear hc2 ha2 hsrc hone hlen hsp d2 d2a d2s e2s f2s e2 f2 m1 hz1
      have HK2 : Hid (w2.cell? ⟨H, 2, none⟩ = some (.slice (some ⟨H + 1, 0, none⟩) (17 - at') 17)) := hk2
      go_upto_region 6 with fail
      go_cut [] from 42 to 52 (fun wx => Chg (fun x j => x = H ∧ j = 3) w2 wx ∧ wx.cell? ⟨H, 3, none⟩ = some (.slice (some ⟨H + 2, 0, none⟩) (17 - at') 17) ∧ Arr wx (H + 2) 134 4 (17 - at') 17 (xs.drop (at' * 4)) ∧ wx.heap.size = H + 3)
      case first =>
        go_region_law (refine step_append_room rfl (.tmp 43) (.tmp 49) 140 rfl 134 i4 4 Ybaz.underlying140 hi4 hzs4 (H + 2) 0 0 17 (by simp [Act.eval, Act.put, hz2]) ⟨S, at' * 4, none⟩ (17 - at') (17 - at') (xs.drop (at' * 4)) (by simp [Act.eval, Act.put]) hlen4 (hsrc4 _) hone4 (by omega) hsp4 ?_)
        all_goals (first | go_meet | (go_wp2; go_meet))
        all_goals (case rel => exact ⟨((Chg.setCells (H + 2) _ _ _ (((Chg.refl _ w2).alloc _).drew) (fun hb => absurd hb (by omega))).set H 3 _ (fun _ => ⟨rfl, rfl⟩)), World.cell?_setCell_same _ _ _ (e3s _ _ _), by rw [← drew_setCells]; exact (Arr.filledK w2 (H + 2) 134 4 (17 - at') 17 68 #[.int .i64 0, .int .i64 0, .int .i64 0, .float .f64 0] (xs.drop (at' * 4)) hz2.symm hlen4 rfl (by omega) (by omega) hone4).next (((Chg.refl (fun x _ => x = H) _).drew).set H 3 _ (fun _ => rfl)) (fun j e => by have : H + 2 = H := e; omega), by simp [setCells_size, hz2]⟩)
      case rest =>
        rename World => w2b
        obtain ⟨hc2b, hk2b, ha2b, hz2b⟩ := hcut
        have HC2b : Hid (Chg S0 w w2b) := HC2.out.trans hc2b (fun x j hx e => by have := e.1; have := HH.out; omega)
        have HCD : Hid (Chg (fun x j => x = H ∧ j = 3) w2 w2b) := hc2b
        have HSA : Hid (Arr w2b (H + 2) 134 4 (17 - at') 17 (xs.drop (at' * 4))) := ha2b
        have HKAb : Hid (Arr w2b (H + 1) 23 1 (17 - at') 17 ((J.map ptr).drop at')) := HKA.out.next HCD.out (fun j e => by have := e.1; omega)
        have HK2b : Hid (w2b.cell? ⟨H, 2, none⟩ = some (.slice (some ⟨H + 1, 0, none⟩) (17 - at') 17)) := HCD.out.keep HK2.out (fun e => by have := e.2; omega)
        have HK3b : Hid (w2b.cell? ⟨H, 3, none⟩ = some (.slice (some ⟨H + 2, 0, none⟩) (17 - at') 17)) := hk2b
        have g2 := HC2b.out.keep c2 id
        have g3 := HC2b.out.keep c3 id
        have fA : ∀ j, w2b.frozen? ⟨A, at' + j, none⟩ = false := fun j => (HC2b.out.froz A _ hAw).trans (HJA.out.free _)
        have sA : ∀ j, j < 17 - at' → (w2b.cell? ⟨A, at' + j, none⟩).isSome = true := fun j hj => HC2b.out.has _ _ (HJA.out.room _ (by omega))
        have clr := Lib.run_clear_slice (P := Ybaz.prog) w2b 47 23 0 (.pointer none) Ybaz.underlying47 (fun w => by kernel_rfl) rfl rfl A at' (17 - at') (17 - at') (by omega) sA (fun j _ => fA j)
        have kb := HB.out.node.pl
        obtain ⟨w3, hw3⟩ : ∃ w3, w3 = w2b.setCells A at' (List.replicate (17 - at') (.pointer none)) := ⟨_, rfl⟩
        rw [← hw3] at clr
        have HC3 : Hid (Chg (fun x j => x = A ∧ at' ≤ j) w2b w3) := by rw [hw3]; exact Chg.setCells A _ _ _ (Chg.refl _ w2b) (fun _ j _ => ⟨rfl, by omega⟩)
        have g32 := HC3.out.keep g2 (fun e => hbA e.1)
        have g33 := HC3.out.keep g3 (fun e => hbA e.1)
        have fb2 : w3.frozen? ⟨b, 2, none⟩ = false := (HC3.out.pln _ _ (HC2b.out.pln _ _ kb)).free 2
        have fb3 : w3.frozen? ⟨b, 3, none⟩ = false := (HC3.out.pln _ _ (HC2b.out.pln _ _ kb)).free 3
        have hb3 : b < w3.heap.size := World.block_lt_of_cell? _ _ g32
        clear hc2b ha2b hk2b hk2 fA sA hsrc4 hone4 hlen4 hsp4 d3 d3a d3s e3s f3s e3 f3 m2
        clear hw3 kb g3
        go_upto_region 8 with fail
        clear clr g2
        go_region
        all_goals (go_upto_region 9 with fail)
        obtain ⟨w4, hw4⟩ : ∃ w4, w4 = ((w3.setCell ⟨b, 2, none⟩ (.slice (some ⟨A, 0, none⟩) at' 17)).setCell ⟨b, 3, none⟩ (.slice (some ⟨S, 0, none⟩) at' 17)).drew := ⟨_, rfl⟩
        rw [← hw4]
        have HC4 : Hid (Chg (fun x j => (x = A ∧ at' ≤ j) ∨ (x = b ∧ (j = 2 ∨ j = 3))) w2b w4) := by
          rw [hw4]
          exact (((HC3.out.mono (fun x j _ e => Or.inl e)).set b 2 _ (fun _ => Or.inr ⟨rfl, Or.inl rfl⟩)).set b 3 _ (fun _ => Or.inr ⟨rfl, Or.inr rfl⟩)).drew
        have g42 : w4.cell? ⟨b, 2, none⟩ = some (.slice (some ⟨A, 0, none⟩) at' 17) := by rw [hw4, cell_drew, cell_ne _ _ _ _ _ (by omega)]; exact World.cell?_setCell_same _ _ _ g32
        have g43 : w4.cell? ⟨b, 3, none⟩ = some (.slice (some ⟨S, 0, none⟩) at' 17) := by rw [hw4, cell_drew]; exact World.cell?_setCell_same _ _ _ (by rw [cell_ne _ _ _ _ _ (by omega)]; exact g33)
        have HG4 : Hid (w4.cell? ⟨b, 2, none⟩ = some (.slice (some ⟨A, 0, none⟩) at' 17) ∧ w4.cell? ⟨b, 3, none⟩ = some (.slice (some ⟨S, 0, none⟩) at' 17)) := ⟨g42, g43⟩
        have hHb : H ≠ b ∧ H ≠ A ∧ H ≠ S ∧ H + 1 ≠ b ∧ H + 1 ≠ A ∧ H + 1 ≠ S ∧ H + 2 ≠ b ∧ H + 2 ≠ A ∧ H + 2 ≠ S := by have := HH.out; omega
        have hk4 := HC4.out.keep HK2b.out (fun e => by rcases e with e | e; exact hHb.2.1 e.1; exact hHb.1 e.1)
        have HK43 : Hid (w4.cell? ⟨H, 3, none⟩ = some (.slice (some ⟨H + 2, 0, none⟩) (17 - at') 17)) := HC4.out.keep HK3b.out (fun e => by rcases e with e | e; exact hHb.2.1 e.1; exact hHb.1 e.1)
        have HKA4 : Hid (Arr w4 (H + 1) 23 1 (17 - at') 17 ((J.map ptr).drop at')) := HKAb.out.next HC4.out (fun j e => by rcases e with e | e; exact hHb.2.2.2.2.1 e.1; exact hHb.2.2.2.1 e.1)
        have HSA4 : Hid (Arr w4 (H + 2) 134 4 (17 - at') 17 (xs.drop (at' * 4))) := HSA.out.next HC4.out (fun j e => by rcases e with e | e; exact hHb.2.2.2.2.2.2.2.1 e.1; exact hHb.2.2.2.2.2.2.1 e.1)
        clear hw4 g32 g33 fb2 fb3 g42 g43
        obtain ⟨m, hm⟩ : ∃ m, m = 17 - at' := ⟨_, rfl⟩
        rw [← hm] at hk4
        rw [← hm] at HKA4 HSA4 HK43
        have hm2 : 0 < m ∧ m < 17 := by omega
        have HM : Hid (m = 17 - at') := hm
        clear hm
        obtain ⟨JY, hJY⟩ : ∃ JY, JY = J.drop at' := ⟨_, rfl⟩
        have HJY : Hid (JY = J.drop at') := hJY
        have HYL : Hid (JY.length = m) := by show _ = _; rw [hJY, List.length_drop, hJ]; exact HM.out.symm
        have HKA5 : Hid (∀ i k, JY[i]? = some k → w4.cell? ⟨H + 1, i, none⟩ = some (.pointer (some ⟨k, 0, none⟩))) := fun i k hik => HKA4.out.cell i _ (by rw [List.getElem?_drop, List.getElem?_map, ← List.getElem?_drop, ← hJY, hik]; rfl)
        have HKYK : Hid (∀ k ∈ JY, k ∈ J ∧ k < H) := fun k hk => by
          have h1 : k ∈ J := List.mem_of_mem_drop (hJY ▸ hk)
          obtain ⟨_, _, _, _, hn, _⟩ := HKD.out k h1
          exact ⟨h1, by rw [HH.out]; exact hn.lt⟩
        have HC24 : Hid (Chg (fun x j => (x = A ∧ at' ≤ j) ∨ (x = b ∧ (j = 2 ∨ j = 3))) w w4) := (HC2b.out.mono (fun _ _ _ e => False.elim e)).trans HC4.out (fun _ _ _ e => e)
        have q41 : w4.cell? ⟨qb, qo + 1, none⟩ = some (.int .i64 sl) := HC24.out.keep HQ.out.c1 (fun e => by rcases e with e | e; exact hqb.2.1 e.1; exact hqb.1 e.1)
        have s1 : (0 : Int) ≤ (sl : Int) ∧ (sl : Int) < 3 := by omega
        obtain ⟨s1a, s1b⟩ := s1
        clear hJY
        go_wp2
        go_loopw [82] (fun v wr => ∃ i : Nat, i ≤ m ∧ v = .int .i64 i ∧ Chg (fun x j => x ∈ JY ∧ j = sl) w4 wr ∧ ∀ t k, t < i → JY[t]? = some k → wr.cell? ⟨k, sl, none⟩ = some (ptr H)) (fun v _ => m - (intOf v).toNat)
        case atStart => exact ⟨0, Nat.zero_le _, rfl, Chg.refl _ _, fun t k ht => by omega⟩
        case round =>
          rename World => w5
          obtain ⟨i, hi, rfl, hC5, hd5⟩ := hrel
          by_cases hlt : i < m
          · obtain ⟨k, hk⟩ : ∃ k, JY[i]? = some k := ⟨JY[i]'(by have := HYL.out; omega), List.getElem?_eq_getElem _⟩
            have hkm : k ∈ JY := List.mem_of_getElem? hk
            have x1 := hC5.keep (HKA5.out i k hk) (fun e => by have := (HKYK.out _ e.1).2; omega)
            have l1 : (i : Int) < (m : Int) := by omega
            obtain ⟨n1, n2, n3, n4, hn, hc⟩ := HKD.out k (HKYK.out k hkm).1
            obtain ⟨v0, hv0⟩ := Option.isSome_iff_exists.1 (hC5.has k sl (HC24.out.has k sl hc))
            have y1 : w5.frozen? ⟨k, sl, none⟩ = false := (hC5.pln _ _ (HC24.out.pln _ _ hn)).free sl
            have q51 := hC5.keep q41 (fun e => (HKD.out qb (HKYK.out qb e.1).1).2.2.2.1 rfl)
            have HC5 : Hid (Chg (fun x j => x ∈ JY ∧ j = sl) w4 w5) := hC5
            have HD5 : Hid (∀ t k, t < i → JY[t]? = some k → w5.cell? ⟨k, sl, none⟩ = some (ptr H)) := hd5
            have HKK : Hid (JY[i]? = some k) := hk
            have HKM : Hid (k ∈ JY) := hkm
            clear hC5 hd5 hk hkm
            go_upto_region 12 with fail
            go_region
            all_goals go_wp2
            all_goals go_roundw
            case rel =>
              refine ⟨i + 1, by omega, by go_num, (HC5.out.set k sl _ (fun _ => ⟨HKM.out, rfl⟩)).drew, fun t k2 ht hk2' => ?_⟩
              rw [cell_drew]
              by_cases e : k2 = k
              · subst e; exact World.cell?_setCell_same _ _ _ hv0
              · rw [World.cell?_setCell_other _ _ _ _ (by intro e2; cases e2; exact e rfl)]
                refine HD5.out t k2 (Nat.lt_of_le_of_ne (by omega) ?_) hk2'
                rintro rfl
                rw [HKK.out] at hk2'
                exact e (Option.some.inj hk2').symm
            case measure => simp [intOf]; omega
          · have him : m = i := by omega
            subst him
            have HC5 : Hid (Chg (fun x j => x ∈ JY ∧ j = sl) w4 w5) := hC5
            have HD5 : Hid (∀ k ∈ JY, w5.cell? ⟨k, sl, none⟩ = some (ptr H)) := fun k hk => by
              obtain ⟨t, ht, e⟩ := List.getElem_of_mem hk
              exact hd5 t k (by have := HYL.out; omega) (by rw [← e]; exact List.getElem?_eq_getElem ht)
            clear hC5 hd5
            have CW5 : Chg (fun x j => (x = A ∧ at' ≤ j) ∨ (x = b ∧ (j = 2 ∨ j = 3)) ∨ (x ∈ JY ∧ j = sl)) w w5 :=
              (HC24.out.mono (fun x j _ e => by rcases e with e | e; exact Or.inl e; exact Or.inr (Or.inl e))).trans HC5.out (fun x j _ e => Or.inr (Or.inr e))
            have HW5 : Hid (Chg (fun x j => (x = A ∧ at' ≤ j) ∨ (x = b ∧ (j = 2 ∨ j = 3)) ∨ (x ∈ JY ∧ j = sl)) w w5) := CW5
            have bJY : b ∉ JY := fun e => (HKD.out b (HKYK.out b e).1).1 rfl
            have qJY : qb ∉ JY := fun e => (HKD.out qb (HKYK.out qb e).1).2.2.2.1 rfl
            have AJY : A ∉ JY := fun e => (HKD.out A (HKYK.out A e).1).2.1 rfl
            have SJY : S ∉ JY := fun e => (HKD.out S (HKYK.out S e).1).2.2.1 rfl
            have HJ' : H ∉ JY ∧ H + 1 ∉ JY ∧ H + 2 ∉ JY := ⟨fun e => by have := (HKYK.out _ e).2; omega, fun e => by have := (HKYK.out _ e).2; omega, fun e => by have := (HKYK.out _ e).2; omega⟩
            have keepb : ∀ j v, j ≠ 2 → j ≠ 3 → w.cell? ⟨b, j, none⟩ = some v → w5.cell? ⟨b, j, none⟩ = some v := fun j v h2 h3 hc => CW5.keep hc (fun e => by rcases e with e | e | e; exact hbA e.1; rcases e.2 with e | e; exact h2 e; exact h3 e; exact bJY e.1)
            have keepq : ∀ j v, w.cell? ⟨qb, j, none⟩ = some v → w5.cell? ⟨qb, j, none⟩ = some v := fun j v hc => CW5.keep hc (fun e => by rcases e with e | e | e; exact hqb.2.1 e.1; exact hqb.1 e.1; exact qJY e.1)
            have JA5 : Arr w5 A 23 1 at' 17 ((J.take at').map ptr) := by
              have := HJA.out.cutTo CW5 at' (by omega) (fun j hj e => by rcases e with e | e | e; have := e.2; omega; exact hbA e.1.symm; exact AJY e.1)
              rwa [Nat.mul_one, ← List.map_take] at this
            have SA5 : Arr w5 S 134 4 at' 17 (xs.take (at' * 4)) := HXA.out.cutTo CW5 at' (by omega) (fun j hj e => by rcases e with e | e | e; exact hAS e.1.symm; exact hbS e.1.symm; exact SJY e.1)
            have LB5 : LeafAt w5 U F A S (J.take at') b := by
              have htk : (J.take at').length = at' := by rw [List.length_take, hJ]; omega
              obtain ⟨n1, n2, n3, n4, n5, n6⟩ := HB.out.node
              refine ⟨⟨CW5.pln _ _ n1, keepb _ _ (by omega) (by omega) n2, keepb _ _ (by omega) (by omega) n3, CW5.sp n4 (fun j h1 h2 e => by rcases e with e | e | e; exact hbA e.1; rcases e.2 with e | e <;> omega; exact bJY e.1), ?_, keepb _ _ (by omega) (by omega) n6⟩, keepb _ _ (by omega) (by omega) HB.out.c1, ?_, ?_, ?_, ?_⟩
              · obtain ⟨x, hx⟩ := n5; exact ⟨x, keepb _ _ (by omega) (by omega) hx⟩
              · rw [htk]; exact HC5.out.keep HG4.out.1 (fun e => bJY e.1)
              · rw [htk]; exact HC5.out.keep HG4.out.2 (fun e => bJY e.1)
              · rw [htk]; exact JA5
              · rw [htk]; exact ⟨_, SA5, HXS.out.take (by omega)⟩
            have kH : ∀ j v, j ≠ 2 → j ≠ 3 → w1.cell? ⟨H, j, none⟩ = some v → w5.cell? ⟨H, j, none⟩ = some v := fun j v h2 h3 hc => HC5.out.keep (HC4.out.keep (HCD.out.keep (HCC.out.keep hc (fun e => h2 e.2)) (fun e => h3 e.2)) (fun e => by rcases e with e | e; exact hHb.2.1 e.1; exact hHb.1 e.1)) (fun e => HJ'.1 e.1)
            have PH5 : Plain w5 H 142 := HC5.out.pln _ _ (HC4.out.pln _ _ (HCD.out.pln _ _ (HCC.out.pln _ _ HP1.out)))
            have JA5' : Arr w5 (H + 1) 23 1 m 17 (JY.map ptr) := by
              have := HKA4.out.next HC5.out (fun j e => HJ'.2.1 e.1)
              rwa [← List.map_drop, ← HJY.out] at this
            have SA5' : Arr w5 (H + 2) 134 4 m 17 (xs.drop (at' * 4)) := HSA4.out.next HC5.out (fun j e => HJ'.2.2 e.1)
            have SL5' : SpL m (xs.drop (at' * 4)) := by have := HXS.out.drop (m := at') (by omega); rwa [← HM.out] at this
            have h52 := HC5.out.keep hk4 (fun e => HJ'.1 e.1)
            have h53 := HC5.out.keep HK43.out (fun e => HJ'.1 e.1)
            obtain ⟨fc, hfc⟩ : ∃ fc, JY.head? = some fc := by
              cases hY : JY with
              | nil => have := HYL.out; rw [hY] at this; simp at this; omega
              | cons y ys => exact ⟨y, rfl⟩
            have HFC : Hid (JY.head? = some fc) := hfc
            have hqH : qb ≠ H ∧ qb ≠ H + 1 ∧ qb ≠ H + 2 := by obtain ⟨t, ht⟩ := HQ.out.pl; have := ht.lt; have := HH.out; omega
            have hsum1 := sum68_leaf qb qo b A S F at' (at' - 1) 17 w5 (by omega) (by omega) (keepq _ _ HQ.out.c2) hqb.1 LB5.c1 (HC5.out.keep HG4.out.1 (fun e => bJY e.1)) (HC5.out.keep HG4.out.2 (fun e => bJY e.1)) ⟨_, LB5.node.c4⟩ LB5.node.sp.ex LB5.node.c9 (fun j => LB5.node.pl.free j)
              (JA5.cell 0 _ (by rw [List.getElem?_map, ← List.head?_eq_getElem?, List.head?_take, if_neg (by omega), HF0.out]; rfl)) (fun i hi => (HXS.out.take (m := at') (by omega)).sp SA5 i hi) (fun e => hbS e.symm) (fun e => hbA e.symm)
            have HSUM1 : Hid (Calls Ybaz.prog 68 #[.pointer (some ⟨qb, qo, none⟩), .pointer (some ⟨b, 0, none⟩)] w5 fun e w' => e = .returned (.tuple #[]) ∧ Chg (S49 b) w5 w' ∧ Summed w' b F) := hsum1
            have HLB5 : Hid (LeafAt w5 U F A S (J.take at') b) := LB5
            have HKH : Hid (∀ j v, j ≠ 2 → j ≠ 3 → w1.cell? ⟨H, j, none⟩ = some v → w5.cell? ⟨H, j, none⟩ = some v) := kH
            have HPH5 : Hid (Plain w5 H 142) := PH5
            have HJA5' : Hid (Arr w5 (H + 1) 23 1 m 17 (JY.map ptr)) := JA5'
            have HSA5' : Hid (Arr w5 (H + 2) 134 4 m 17 (xs.drop (at' * 4))) := SA5'
            have HSL5' : Hid (SpL m (xs.drop (at' * 4))) := SL5'
            have HH5 : Hid (w5.cell? ⟨H, 2, none⟩ = some (.slice (some ⟨H + 1, 0, none⟩) m 17) ∧ w5.cell? ⟨H, 3, none⟩ = some (.slice (some ⟨H + 2, 0, none⟩) m 17)) := ⟨h52, h53⟩
            have HKQ5 : Hid (∀ j v, w.cell? ⟨qb, j, none⟩ = some v → w5.cell? ⟨qb, j, none⟩ = some v) := keepq
            have HNJ : Hid (b ∉ JY ∧ qb ∉ JY ∧ A ∉ JY ∧ S ∉ JY ∧ H ∉ JY ∧ H + 1 ∉ JY ∧ H + 2 ∉ JY) := ⟨bJY, qJY, AJY, SJY, HJ'⟩
            clear hsum1 LB5 kH PH5 JA5 SA5 JA5' SA5' SL5' h52 h53 keepb keepq CW5 bJY qJY AJY SJY HJ' hfc hk4 q41
            go_upto_region 23 with (go_at_call 68; refine HSUM1.out.mono ?_; rintro e w6 ⟨rfl, hC6, hS6⟩; have HC6 : Hid (Chg (S49 b) w5 w6) := hC6; have HS6 : Hid (Summed w6 b F) := hS6; clear hC6 hS6)
            obtain ⟨z0, z1, z3, z4, ⟨v5, v6, v7, v8, q5, q6, q7, q8⟩, z9, z23⟩ := HE.out
            have nb6 : ∀ x j v, x ≠ b → w5.cell? ⟨x, j, none⟩ = some v → w6.cell? ⟨x, j, none⟩ = some v := fun x j v hx hc => HC6.out.keep hc (fun e => hx e.1)
            have kH6 : ∀ j v, j ≠ 2 → j ≠ 3 → w1.cell? ⟨H, j, none⟩ = some v → w6.cell? ⟨H, j, none⟩ = some v := fun j v h2 h3 hc => nb6 _ _ _ hHb.1 (HKH.out j v h2 h3 hc)
            have JA6 := HJA5'.out.next HC6.out (fun j e => hHb.2.2.2.1 e.1)
            have SA6 := HSA5'.out.next HC6.out (fun j e => hHb.2.2.2.2.2.2.1 e.1)
            have hsum2 := sum68_leaf qb qo H (H + 1) (H + 2) fc m (m - 1) 17 w6 (by omega) (by omega) (nb6 _ _ _ hqb.1 (HKQ5.out _ _ HQ.out.c2)) hqH.1 (kH6 1 _ (by omega) (by omega) z1) (nb6 _ _ _ hHb.1 HH5.out.1) (nb6 _ _ _ hHb.1 HH5.out.2) ⟨_, kH6 4 _ (by omega) (by omega) z4⟩
              ⟨_, _, _, _, kH6 5 _ (by omega) (by omega) q5, kH6 6 _ (by omega) (by omega) q6, kH6 7 _ (by omega) (by omega) q7, kH6 8 _ (by omega) (by omega) q8⟩ ⟨_, kH6 9 _ (by omega) (by omega) z9⟩ (fun j => (HC6.out.pln _ _ HPH5.out).free j)
              (JA6.cell 0 _ (by rw [List.getElem?_map, ← List.head?_eq_getElem?, HFC.out]; rfl)) (fun i hi => HSL5'.out.sp SA6 i hi) (by omega) (by omega)
            have HSUM2 : Hid (Calls Ybaz.prog 68 #[.pointer (some ⟨qb, qo, none⟩), .pointer (some ⟨H, 0, none⟩)] w6 fun e w' => e = .returned (.tuple #[]) ∧ Chg (S49 H) w6 w' ∧ Summed w' H fc) := hsum2
            clear hsum2 nb6 kH6 JA6 SA6 z0 z1 z3 z4 q5 q6 q7 q8 z9 z23
            go_upto_region 24 with (go_at_call 68; refine HSUM2.out.mono ?_; rintro e w7 ⟨rfl, hC7, hS7⟩; have HC7 : Hid (Chg (S49 H) w6 w7) := hC7; have HS7 : Hid (Summed w7 H fc) := hS7; clear hC7 hS7)
            have hbH : b ≠ H := fun e => hHb.1 e.symm
            have HW7 : Hid (Chg (fun x j => (x = A ∧ at' ≤ j) ∨ (x = b ∧ 2 ≤ j ∧ j ≤ 9) ∨ (x ∈ JY ∧ j = sl)) w w7) :=
              ((HW5.out.mono (fun x j _ e => by rcases e with e | e | e; exact Or.inl e; exact Or.inr (Or.inl ⟨e.1, by omega⟩); exact Or.inr (Or.inr e))).trans HC6.out (fun x j _ e => Or.inr (Or.inl ⟨e.1, by have := e.2; omega⟩))).trans HC7.out (fun x j hx e => by have := e.1; have := HH.out; omega)
            have LB6 : LeafAt w6 U F A S (J.take at') b := by
              obtain ⟨⟨n1, n2, n3, n4, n5, n6⟩, l1, l2, l3, l4, xs', l5, l6⟩ := HLB5.out
              have k : ∀ j v, (j < 4 ∨ 9 < j) → w5.cell? ⟨b, j, none⟩ = some v → w6.cell? ⟨b, j, none⟩ = some v := fun j v h hc => HC6.out.keep hc (fun e => by have := e.2; omega)
              exact ⟨⟨HC6.out.pln _ _ n1, k _ _ (by omega) n2, HS6.out.c4, HS6.out.sp, HS6.out.c9, k _ _ (by omega) n6⟩, k _ _ (by omega) l1, k _ _ (by omega) l2, k _ _ (by omega) l3, l4.next HC6.out (fun j e => hbA e.1.symm), xs', l5.next HC6.out (fun j e => hbS e.1.symm), l6⟩
            have HLB7 : Hid (LeafAt w7 U F A S (J.take at') b) := LB6.next HC7.out (fun j e => hbH e.1) (fun j e => hHb.2.1 e.1.symm) (fun j e => hHb.2.2.1 e.1.symm)
            have HLC7 : Hid (LeafAt w7 U fc (H + 1) (H + 2) JY H) := by
              obtain ⟨z0, z1, z3, z4, z5, z9, z23⟩ := HE.out
              have k : ∀ j v, (j < 4 ∨ 9 < j) → w5.cell? ⟨H, j, none⟩ = some v → w7.cell? ⟨H, j, none⟩ = some v := fun j v h hc => HC7.out.keep (HC6.out.keep hc (fun e => hHb.1 e.1)) (fun e => by have := e.2; omega)
              have k1 : ∀ j v, (j < 2 ∨ 9 < j) → w1.cell? ⟨H, j, none⟩ = some v → w7.cell? ⟨H, j, none⟩ = some v := fun j v h hc => k j v (by omega) (HKH.out j v (by omega) (by omega) hc)
              refine ⟨⟨HC7.out.pln _ _ (HC6.out.pln _ _ HPH5.out), by rw [HPP.out]; exact k1 _ _ (by omega) z0, HS7.out.c4, HS7.out.sp, HS7.out.c9, k1 _ _ (by omega) z23⟩, k1 _ _ (by omega) z1, ?_, ?_, ?_, xs.drop (at' * 4), ?_, ?_⟩
              · rw [HYL.out]; exact k _ _ (by omega) HH5.out.1
              · rw [HYL.out]; exact k _ _ (by omega) HH5.out.2
              · rw [HYL.out]; exact (HJA5'.out.next HC6.out (fun j e => hHb.2.2.2.1 e.1)).next HC7.out (fun j e => by have := e.1; omega)
              · rw [HYL.out]; exact (HSA5'.out.next HC6.out (fun j e => hHb.2.2.2.2.2.2.1 e.1)).next HC7.out (fun j e => by have := e.1; omega)
              · rw [HYL.out]; exact HSL5'.out
            have HJL : Hid (∀ k ∈ JY, w7.cell? ⟨k, sl, none⟩ = some (ptr H)) := fun k hk => HC7.out.keep (HC6.out.keep (HD5.out k hk) (fun e => HNJ.out.1 (e.1 ▸ hk))) (fun e => HNJ.out.2.2.2.2.1 (e.1 ▸ hk))
            have HZ7 : Hid (H + 3 ≤ w7.heap.size) := by
              have h1 := HLC7.out.sa; obtain ⟨_, h2, _⟩ := h1
              show H + 3 ≤ w7.heap.size
              have := h2.lt; omega
            clear LB6
            have hHA := hHb
            by_cases hUc : ∃ u, U = some u
            · obtain ⟨u, rfl⟩ := hUc
              have HUB : Hid (G.U b = some u) := hU.out.symm
              have hD0 : 0 < G.D := by
                rcases Nat.eq_zero_or_pos G.D with h | h
                · exfalso
                  have h1 := HI.out.shape.top
                  have h2 := HBL.out
                  rw [h] at h1
                  rw [h1] at h2
                  obtain rfl : b = root := by simpa using h2
                  have := HI.out.shape.upr
                  rw [HUB.out] at this; cases this
                · exact h
              have huL : u ∈ G.L 1 ∧ b ∈ G.K u := by
                obtain ⟨x, hx1, hx2, hx3⟩ := HI.out.shape.above 0 hD0 b HBL.out
                rw [HUB.out] at hx3
                obtain rfl : u = x := Option.some.inj hx3
                exact ⟨hx1, hx2⟩
              have hub : u ≠ b := by
                rintro rfl
                have := HI.out.shape.lev 1 0 u (by omega) (by omega) huL.1 HBL.out
                omega
              obtain ⟨ou1, ou2, _⟩ := HI.out.shape.own 1 (by omega) u huL.1
              obtain ⟨ob1, ob2, ob3⟩ := HI.out.shape.own 0 (by omega) b HBL.out
              have ob3 := ob3 rfl
              have hJRY : ∀ k ∈ JY, G.R k = none := fun k hk => HJR.out k (by rw [← hJe.out]; exact (HKYK.out k hk).1)
              have huJY : u ∉ JY := fun e => by have := hJRY u e; rw [ou1] at this; cases this
              have hAuJY : G.A u ∉ JY := fun e => by have := hJRY _ e; rw [ou2] at this; cases this
              have hap := HI.out.shape.apart (by omega) (by omega) HBL.out huL.1 hub
              rw [← hA.out] at hap
              have hSu : S ≠ u ∧ S ≠ G.A u := ⟨(fun e => by rw [← hS.out, e, ou1] at ob3; injection ob3 with e2; injection e2 with e3 e4; cases e4), (fun e => by rw [← hS.out, e, ou2] at ob3; injection ob3 with e2; injection e2 with e3 e4; cases e4)⟩
              have hbAu : b ≠ G.A u := fun e => by rw [← e, ob1] at ou2; injection ou2 with e2; injection e2 with e3 e4; cases e4
              have hu7 := (HI.out.inner 0 hD0 u huL.1).next HW7.out (fun j e => by rcases e with e | e | e; exact hap.2.2 e.1; exact hub e.1; exact huJY e.1) (fun j e => by rcases e with e | e | e; exact hap.2.1 e.1; exact hap.1 e.1; exact hAuJY e.1)
              obtain ⟨Ku, hKu⟩ : ∃ Ku, Hid (Ku = G.K u) := ⟨_, rfl⟩
              obtain ⟨Au, hAu⟩ : ∃ Au, Hid (Au = G.A u) := ⟨_, rfl⟩
              obtain ⟨Cu, hCu⟩ : ∃ Cu, Hid (Cu = G.C u) := ⟨_, rfl⟩
              rw [← hKu.out, ← hAu.out, ← hCu.out] at hu7
              rw [← hAu.out] at hap hSu hAuJY hbAu
              have HU7 : Hid (InnerAt w7 (G.U u) (G.F u) Au Cu Ku u) := hu7
              have hin := HI.out.shape.inner 0 hD0 u huL.1
              have hov : ov (some b) u = 0 := by unfold ov; rw [if_neg (by intro e; exact hub (Option.some.inj e).symm)]
              rw [hov, ← hKu.out] at hin
              have hKun : Ku.Nodup := by
                rw [hKu.out]
                have := HI.out.shape.nd 0 (by omega)
                rw [← HI.out.shape.chain 0 hD0] at this
                exact nodup_part this u huL.1
              obtain ⟨t, htl, hte⟩ := List.getElem_of_mem (show b ∈ Ku by rw [hKu.out]; exact huL.2)
              obtain ⟨n, hn⟩ : ∃ n, n = Ku.length := ⟨_, rfl⟩
              have u1 := hu7.c1
              rw [← hn] at u1
              have hnn : 0 < n ∧ n ≤ 8 ∧ t < n := ⟨by omega, by omega, by omega⟩
              have hkp : ∀ i, i < n → w7.cell? ⟨Au, i, none⟩ = some (.pointer (some ⟨Ku.getD i 0, 0, none⟩)) ∧ Plain w7 (Ku.getD i 0) 142 := fun i hi' => by
                have hil : i < Ku.length := by omega
                have e1 : Ku.getD i 0 = Ku[i] := by simp [List.getD, List.getElem?_eq_getElem hil]
                rw [e1]
                refine ⟨hu7.ka.cell i _ (by rw [List.getElem?_map, List.getElem?_eq_getElem hil]; rfl), HW7.out.pln _ _ (HI.out.node 0 (by omega) _ (HI.out.shape.kid 0 hD0 u _ huL.1 (by rw [← hKu.out]; exact List.getElem_mem hil))).pl⟩
              have hidx := index69 Au n Cu t b (fun i => Ku.getD i 0) w7 (by omega) hnn.2.2 hkp (fun i hi' => by
                show Ku.getD i 0 ≠ b
                have hil : i < Ku.length := by omega
                have e1 : Ku.getD i 0 = Ku[i] := by simp [List.getD, List.getElem?_eq_getElem hil]
                rw [e1, ← hte]
                intro e
                exact (List.pairwise_iff_getElem.1 hKun i t hil htl hi') e) (by show Ku.getD t 0 = b; simp [List.getD, List.getElem?_eq_getElem htl, hte])
              have HIDX : Hid (Calls Ybaz.prog 69 #[.slice (some ⟨Au, 0, none⟩) n Cu, .pointer (some ⟨b, 0, none⟩)] w7 fun e w' => e = .returned (.int .i64 t) ∧ ∃ q, w' = w7.drewN q) := hidx
              have HTE : Hid (Ku[t]? = some b) := by show _ = _; rw [List.getElem?_eq_getElem htl, hte]
              have HN : Hid (n = Ku.length) := hn
              have HUL : Hid (u ∈ G.L 1 ∧ b ∈ G.K u ∧ u ≠ b ∧ u ∉ JY ∧ Au ∉ JY ∧ Ku.Nodup) := ⟨huL.1, huL.2, hub, huJY, hAuJY, hKun⟩
              have HAP : Hid (Au ≠ b ∧ Au ≠ A ∧ u ≠ A ∧ S ≠ u ∧ S ≠ Au) := ⟨hap.1, hap.2.1, hap.2.2, hSu.1, hSu.2⟩
              have HRR : Hid (G.R u = some (u, 0) ∧ G.R Au = some (u, 1) ∧ G.R b = some (b, 0) ∧ G.R A = some (b, 1)) := ⟨ou1, by rw [hAu.out]; exact ou2, ob1, by rw [hA.out]; exact ob2⟩
              have HJRY : Hid (∀ k ∈ JY, G.R k = none) := hJRY
              have hw : IntKind.i64.wrap ((t : Int) + 1) = (t : Int) + 1 := by rw [IntKind.wrap_i64]; omega
              have b0 : w7.cell? ⟨b, 0, none⟩ = some (.pointer (some ⟨u, 0, none⟩)) := HLB7.out.node.c0
              clear hap hidx hkp hin hov hu7 hn htl hte huL hub huJY hAuJY hKun hSu ou1 ou2 ob1 ob2 ob3 hJRY hbAu
              go_upto_region 30 with (go_at_call 69; refine HIDX.out.mono ?_; rintro e w8 ⟨rfl, q8, hw8⟩; have HW8 : Hid (w8 = w7.drewN q8) := hw8; clear hw8)
              have HC8 : Hid (Chg S0 w7 w8) := by show Chg S0 w7 w8; rw [HW8.out]; exact (Chg.refl S0 w7).drewN q8
              have HU8 : Hid (InnerAt w8 (G.U u) (G.F u) Au Cu Ku u) := HU7.out.next HC8.out (fun _ => id) (fun _ => id)
              have u8 := HC8.out.keep u1 id
              obtain ⟨w9, hw9⟩ : ∃ w9, w9 = w8.alloc (.cells #[.pointer (some ⟨H, 0, none⟩)] 25) := ⟨_, rfl⟩
              have HC9 : Hid (Chg S0 w8 w9) := by show Chg S0 w8 w9; rw [hw9]; exact (Chg.refl S0 w8).alloc _
              have HV9 : Hid (Arr w9 w8.heap.size 25 1 1 1 [ptr H]) := by show Arr _ _ _ _ _ _ _; rw [hw9]; exact Arr.one1 w8 25 _ rfl
              have hAu8 : Au < w8.heap.size := HU8.out.ka.lt
              have hins := ins70_any Au n Cu (t + 1) w8.heap.size (Ku.map ptr) [ptr H] w9 (by rw [HN.out]; exact HU8.out.ka.next HC9.out (fun _ => id)) (by omega) hnn.1 (by omega) HV9.out (by omega)
              rw [ins_rep b H t Ku HUL.out.2.2.2.2.2 HTE.out, hw9, Int.natCast_add, Int.natCast_one] at hins
              have HINS : Hid (Calls Ybaz.prog 70 #[.slice (some ⟨Au, 0, none⟩) n Cu, .int .i64 ((t : Int) + 1), .slice (some ⟨w8.heap.size, 0, none⟩) 1 1] (w8.alloc (.cells #[.pointer (some ⟨H, 0, none⟩)] 25)) _) := hins
              clear hins
              have hu8 : u < w8.heap.size := HU8.out.node.pl.lt
              clear u1
              have huAu : u ≠ Au := by
                intro e
                have h1 := HRR.out.1
                have h2 := HRR.out.2.1
                rw [← e, h1] at h2
                injection h2 with e2; injection e2 with e3 e4; cases e4
              go_upto_region 31 with (go_at_call 70; refine HINS.out.mono ?_; rintro e w10 ⟨g', c', rfl, ha10, hg10, hc10⟩; have HA10 : Hid (Arr w10 g' 25 1 (n + 1) c' ((rep b H Ku).map ptr)) := ha10; have HG10 : Hid (g' = Au ∨ (w8.alloc (.cells #[.pointer (some ⟨H, 0, none⟩)] 25)).heap.size ≤ g') := hg10; have HC10 : Hid (Chg (fun x _ => x = Au) (w8.alloc (.cells #[.pointer (some ⟨H, 0, none⟩)] 25)) w10) := hc10; have uu := hc10.keep (((Chg.refl S0 w8).alloc (.cells #[.pointer (some ⟨H, 0, none⟩)] 25)).keep u8 id) (fun e => huAu e); have fu : w10.frozen? ⟨u, 1, none⟩ = false := (hc10.pln _ _ (((Chg.refl S0 w8).alloc (.cells #[.pointer (some ⟨H, 0, none⟩)] 25)).pln _ _ HU8.out.node.pl)).free 1; clear ha10 hg10 hc10)
              obtain ⟨w11, hw11⟩ : ∃ w11, w11 = w10.setCell ⟨u, 1, none⟩ (.slice (some ⟨g', 0, none⟩) (n + 1) c') := ⟨_, rfl⟩
              rw [← hw11]
              have CA : Chg (fun x j => x = Au ∨ (x = u ∧ j = 1)) w8 w11 := by
                rw [hw11]
                exact ((((Chg.refl _ w8).alloc _).trans HC10.out (fun x j _ e => Or.inl e)).set u 1 _ (fun _ => Or.inr ⟨rfl, rfl⟩))
              have HCA : Hid (Chg (fun x j => x = Au ∨ (x = u ∧ j = 1)) w7 w11) := (HC8.out.mono (fun _ _ _ e => False.elim e)).trans CA (fun _ _ _ e => e)
              have HCT : Hid (Chg (XL A at' b u Au sl JY) w w11) := (HW7.out.mono (fun x j _ e => by rcases e with e | e | e; exact Or.inl e; exact Or.inr (Or.inl e); exact Or.inr (Or.inr (Or.inl e)))).trans HCA.out (fun x j _ e => by rcases e with e | e; exact Or.inr (Or.inr (Or.inr (Or.inl e))); exact Or.inr (Or.inr (Or.inr (Or.inr e))))
              have U1 : w11.cell? ⟨u, 1, none⟩ = some (.slice (some ⟨g', 0, none⟩) (n + 1) c') := by rw [hw11]; exact World.cell?_setCell_same _ _ _ uu
              have HAu11 : Hid (Arr w11 g' 25 1 (n + 1) c' ((rep b H Ku).map ptr)) := by
                show Arr _ _ _ _ _ _ _
                rw [hw11]
                refine HA10.out.next ((Chg.refl (fun x j => x = u ∧ j = 1) w10).set u 1 _ (fun _ => ⟨rfl, rfl⟩)) (fun j e => ?_)
                rcases HG10.out with h | h
                · exact huAu (e.1 ▸ h)
                · have := e.1; simp at h; omega
              have HG11 : Hid (g' = Au ∨ w8.heap.size + 1 ≤ g') := by rcases HG10.out with h | h; exact Or.inl h; exact Or.inr (by simpa using h)
              clear hw11 uu fu HA10 HG10 HC10 CA
              have hult : u < H ∧ Au < H := by
                have h1 := (HI.out.inner 0 hD0 u HUL.out.1)
                rw [HH.out, hAu.out]
                exact ⟨h1.node.pl.lt, h1.ka.lt⟩
              obtain ⟨ap1, ap2, ap3, ap4, ap5⟩ := HAP.out
              have IB : LeafAt w11 (G.U b) (G.F b) (G.A b) (G.S b) (J.take at') b := by
                rw [← hU.out, ← hFe.out, ← hA.out, ← hS.out]
                exact HLB7.out.next HCA.out (fun j e => by rcases e with e | e; exact ap1 e.symm; exact HUL.out.2.2.1 e.1.symm) (fun j e => by rcases e with e | e; exact ap2 e.symm; exact ap3 e.1.symm) (fun j e => by rcases e with e | e; exact ap5 e; exact ap4 e.1)
              have IC : LeafAt w11 (G.U b) fc (H + 1) (H + 2) JY H := by
                rw [← hU.out]
                exact HLC7.out.next HCA.out (fun j e => by rcases e with e | e; omega; have := e.1; omega) (fun j e => by rcases e with e | e; omega; have := e.1; omega) (fun j e => by rcases e with e | e; omega; have := e.1; omega)
              have hlen9 : (rep b H (G.K u)).length = n + 1 := by rw [← hKu.out, rep_length b H Ku HUL.out.2.2.2.2.2, if_pos (by rw [hKu.out]; exact HUL.out.2.1), HN.out]
              have IU : InnerAt w11 (G.U u) (G.F u) g' c' (rep b H (G.K u)) u := by
                have hn7 := HU7.out.node
                have k7 : ∀ j v, j ≠ 1 → w7.cell? ⟨u, j, none⟩ = some v → w11.cell? ⟨u, j, none⟩ = some v := fun j v h hc => HCA.out.keep hc (fun e => by rcases e with e | e; exact huAu e; exact h e.2)
                refine ⟨⟨HCA.out.pln _ _ hn7.pl, k7 _ _ (by omega) hn7.c0, k7 _ _ (by omega) hn7.c4, HCA.out.sp hn7.sp (fun j _ _ e => by rcases e with e | e; exact huAu e; have := e.2; omega), ?_, k7 _ _ (by omega) hn7.c23⟩, ?_, ?_⟩
                · obtain ⟨x, hx⟩ := hn7.c9; exact ⟨x, k7 _ _ (by omega) hx⟩
                · rw [hlen9]; exact U1
                · rw [hlen9, ← hKu.out]; exact HAu11.out
              have hcut := inv_cut_leaf (at' := at') (sl := sl) (H := H) (fc := fc) (g' := g') (c' := c') (JX := J.take at') (JY := JY) HI.out hD0 HBL.out HUB.out HUL.out.1 HUL.out.2.1 (by rw [HJY.out, List.take_append_drop, hJe.out]) (by rw [List.length_take, hJ]; omega) (by rw [HYL.out]; omega) HFC.out HJRY.out (by rw [HH.out]; exact Nat.le_refl _) (by rcases HG11.out with h | h; exact Or.inl (by rw [h, hAu.out]); have := HC8.out.size; have := HZ7.out; exact Or.inr (by omega)) (by rw [← hA.out, ← hAu.out]; exact HCT.out) IB IC IU
              clear IB IC IU
              obtain ⟨G2, hD2, hI2, hfl, hR2, huL2, hK2⟩ := hcut
              have hXR : ∀ x j, XL A at' b u Au sl JY x j → G.R x ≠ none ∨ (x ∈ JY ∧ j = sl) := fun x j e => by
                obtain ⟨r1, r2, r3, r4⟩ := HRR.out
                rcases e with e | e | e | e | e
                · left; rw [e.1, r4]; simp
                · left; rw [e.1, r3]; simp
                · right; exact e
                · left; rw [e, r2]; simp
                · left; rw [e.1, r1]; simp
              have kq : ∀ j v, w.cell? ⟨qb, j, none⟩ = some v → w11.cell? ⟨qb, j, none⟩ = some v := fun j v hc => HCT.out.keep hc (fun e => by rcases hXR _ _ e with h | h; exact h HRQ.out; exact HNJ.out.2.1 h.1)
              have HQA : Hid (QAt w11 qb qo sl root) := by
                obtain ⟨tq, hq0⟩ := HQ.out.pl
                exact ⟨⟨tq, HCT.out.pln _ _ hq0⟩, kq _ _ HQ.out.c0, kq _ _ HQ.out.c1, kq _ _ HQ.out.c2, kq _ _ HQ.out.c3⟩
              have hJYJ : ∀ x ∈ JY, x ∈ G.J b := fun x hx => by rw [← hJe.out]; exact (HKYK.out x hx).1
              have HCF : Hid (Chg (fun x j => G.R x ≠ none ∨ (x = qb ∧ j = qo + 3) ∨ (x ∈ G.J b ∧ j = sl)) w w11) := HCT.out.mono (fun x j _ e => by rcases hXR x j e with h | h; exact Or.inl h; exact Or.inr (Or.inr ⟨hJYJ x h.1, h.2⟩))
              have HPT : Hid (∀ x p, G.R x = none → x ≠ qb → w.cell? ⟨x, sl, none⟩ = some (ptr p) → ∃ p', w11.cell? ⟨x, sl, none⟩ = some (ptr p')) := fun x p hx hxq hc => by
                by_cases hxJ : x ∈ JY
                · refine ⟨H, HCA.out.keep (HJL.out x hxJ) (fun e => ?_)⟩
                  rcases e with e | e
                  · exact HUL.out.2.2.2.2.1 (e ▸ hxJ)
                  · exact HUL.out.2.2.2.1 (e.1 ▸ hxJ)
                · exact ⟨p, HCT.out.keep hc (fun e => by rcases hXR _ _ e with h | h; exact h hx; exact hxJ h.1)⟩
              have hqlt : qb < w.heap.size := by obtain ⟨tq, hq0⟩ := HQ.out.pl; exact hq0.lt
              have HR2 : Hid (∀ x, x < w.heap.size → (G2.R x = none ↔ G.R x = none)) := hR2
              have HFL : Hid (G2.flat = G.flat) := hfl
              rw [hlen9] at hI2
              by_cases h9 : n = 8
              · have h9' : n + 1 = 9 := by omega
                rw [if_pos h9'] at hI2
                have hrec := fun (lb : Bool) => split_inner (G2.D - 1) G2 w11 0 u root qb qo sl lb (by omega) hI2 huL2 (by rw [hK2, hlen9]; exact h9') HQA.out ((hR2 qb hqlt).2 HRQ.out)
                have HREC : Hid (∀ lb : Bool, Calls Ybaz.prog 42 #[.pointer (some ⟨qb, qo, none⟩), .pointer (some ⟨u, 0, none⟩), .bool lb] w11 (SplitPost w11 G2 qb qo sl)) := hrec
                subst h9
                clear hrec hI2 hR2 hfl kq hXR hlen9 huL2 hK2 hJYJ
                go_wp2_with (first | (go_at_call 42; refine (HREC.out _).mono ?_; rintro e w12 ⟨rfl, G3, root3, i1, i2, i3, i4, i5⟩) | go_in)
                all_goals (go_end0; refine ⟨rfl, G3, root3, i1, i2.trans HFL.out, i3, HCF.out.trans i4 (fun x j hx e => ?_), fun x hx => (i5 x (Nat.lt_of_lt_of_le hx HCT.out.size)).trans (HR2.out x hx), fun x p hx hxq hc => ?_⟩)
                · rcases e with e | e
                  · exact Or.inl (fun h => e ((HR2.out x hx).2 h))
                  · exact Or.inr (Or.inl e)
                · obtain ⟨p', hp'⟩ := HPT.out x p hx hxq hc
                  refine ⟨p', i4.keep hp' (fun e => ?_)⟩
                  rcases e with e | e
                  · exact e ((HR2.out x (World.block_lt_of_cell? _ _ hc)).2 hx)
                  · exact hxq e.1
              · have h9' : ¬ (n + 1 = 9) := by omega
                rw [if_neg h9'] at hI2
                have HI2 : Hid (Inv w11 G2 none root) := hI2
                have kn : ¬ ((8 : Int) < (n : Int) + 1) := by omega
                have kn2 : ((n + 1 : Nat) : Int) ≤ 8 := by omega
                clear hI2 hR2 hfl kq hXR hlen9 huL2 hK2 hJYJ
                go_wp2_with (first | (go_at_call 42; fail) | go_in)
                go_end0
                exact ⟨rfl, G2, root, HI2.out, HFL.out, HQA.out, HCF.out, HR2.out, HPT.out⟩
            · obtain rfl : U = none := by cases U with | none => rfl | some u => exact absurd ⟨u, rfl⟩ hUc
              have HUB : Hid (G.U b = none) := hU.out.symm
              have hD0 : G.D = 0 := by
                rcases Nat.eq_zero_or_pos G.D with h | h
                · exact h
                · exfalso
                  obtain ⟨x, _, _, hx3⟩ := HI.out.shape.above 0 h b HBL.out
                  rw [HUB.out] at hx3; cases hx3
              have hbr : b = root := by
                have h1 := HI.out.shape.top
                have h2 := HBL.out
                rw [hD0] at h1
                rw [h1] at h2
                simpa using h2
              subst hbr
              have b0 : w7.cell? ⟨b, 0, none⟩ = some (.pointer none) := HLB7.out.node.c0
              have kq : ∀ j v, w.cell? ⟨qb, j, none⟩ = some v → w7.cell? ⟨qb, j, none⟩ = some v := fun j v hc => HW7.out.keep hc (fun e => by rcases e with e | e | e; exact hqb.2.1 e.1; exact hqb.1 e.1; exact HNJ.out.2.1 e.1)
              have q3 := kq _ _ HQ.out.c3
              have fq : w7.frozen? ⟨qb, qo + 3, none⟩ = false := by obtain ⟨tq, hq0⟩ := HQ.out.pl; exact (HW7.out.pln _ _ hq0).free _
              have hq7 : qb < w7.heap.size := World.block_lt_of_cell? _ _ q3
              have hb7 : b < w7.heap.size := World.block_lt_of_cell? _ _ b0
              have HKQ : Hid (∀ j v, w.cell? ⟨qb, j, none⟩ = some v → w7.cell? ⟨qb, j, none⟩ = some v) := kq
              clear kq
              go_upto_region 27 with fail
              obtain ⟨N, hN⟩ : ∃ N, N = w7.heap.size := ⟨_, rfl⟩
              rw [← hN]
              obtain ⟨wq, hwq⟩ : ∃ wq, wq = (w7.setCell ⟨qb, qo + 3, none⟩ (.pointer (some ⟨N + 1, 0, none⟩))).alloc (.cells #[Value.pointer (some { block := b, off := 0 }), Value.pointer (some { block := H, off := 0 })] 25) := ⟨_, rfl⟩
              obtain ⟨T, hT⟩ : ∃ T : Array Value, T = #[Value.pointer none, Value.slice (some { block := N, off := 0 }) 2 2, Value.slice none 0 0,
              Value.slice none 0 0, Value.pointer none, Value.int IntKind.i64 0, Value.int IntKind.i64 0,
              Value.int IntKind.i64 0, Value.float FloatKind.f64 0, Value.int IntKind.i64 0, Value.int IntKind.i64 0,
              Value.int IntKind.i64 0, Value.int IntKind.i64 0, Value.int IntKind.i64 0, Value.float FloatKind.f64 0,
              Value.float FloatKind.f64 0, Value.float FloatKind.f64 0, Value.float FloatKind.f64 0,
              Value.float FloatKind.f64 0, Value.float FloatKind.f64 0, Value.float FloatKind.f64 0,
              Value.float FloatKind.f64 0, Value.pointer none, Value.bool false] := ⟨_, rfl⟩
              rw [← hwq, ← hT]
              obtain ⟨w8, hw8⟩ : ∃ w8, w8 = wq.alloc (.cells T 142) := ⟨_, rfl⟩
              rw [← hw8]
              have hzq : wq.heap.size = N + 1 := by rw [hwq, hN]; simp
              have CQ : Chg (fun x j => x = qb ∧ j = qo + 3) w7 wq := by rw [hwq]; exact ((Chg.refl _ w7).set qb (qo + 3) _ (fun _ => ⟨rfl, rfl⟩)).alloc _
              have C8 : Chg (fun x j => x = qb ∧ j = qo + 3) w7 w8 := by rw [hw8]; exact CQ.alloc _
              have HC8 : Hid (Chg (fun x j => x = qb ∧ j = qo + 3) w7 w8) := C8
              have HAN : Hid (Arr w8 N 25 1 2 2 [ptr b, ptr H]) := by
                show Arr _ _ _ _ _ _ _
                rw [hw8]
                refine Arr.next (S := S0) ?_ ((Chg.refl S0 wq).alloc _) (fun _ => id)
                rw [hwq, hN]
                have := Arr.lit2 (w7.setCell ⟨qb, qo + 3, none⟩ (.pointer (some ⟨w7.heap.size + 1, 0, none⟩))) 25 (ptr b) (ptr H) rfl rfl
                have hs : (w7.setCell ⟨qb, qo + 3, none⟩ (.pointer (some ⟨w7.heap.size + 1, 0, none⟩))).heap.size = w7.heap.size := by simp
                rw [hs] at this
                exact this
              have HT : Hid (∀ j v, T[j]? = some v → w8.cell? ⟨N + 1, j, none⟩ = some v) := fun j v hj => by rw [hw8, ← hzq, cell_of_row _ _ _ _ _ _ (heap_alloc_new _ _)]; exact hj
              have HPR : Hid (Plain w8 (N + 1) 142) := ⟨T, by rw [hw8, ← hzq]; exact heap_alloc_new _ _⟩
              have q8 : w8.cell? ⟨qb, qo + 3, none⟩ = some (.pointer (some ⟨N + 1, 0, none⟩)) := by
                rw [hw8]
                refine ((Chg.refl S0 wq).alloc _).keep ?_ id
                rw [hwq]
                exact ((Chg.refl S0 _).alloc _).keep (World.cell?_setCell_same _ _ _ q3) id
              have b8 := C8.keep b0 (fun e => hqb.1 e.1.symm)
              have fb8 : w8.frozen? ⟨b, 0, none⟩ = false := (C8.pln _ _ HLB7.out.node.pl).free 0
              have hH7 : w7.cell? ⟨H, 0, none⟩ = some (.pointer none) := HLC7.out.node.c0
              have h8 := C8.keep hH7 (fun e => hqH.1 e.1.symm)
              have fh8 : w8.frozen? ⟨H, 0, none⟩ = false := (C8.pln _ _ HLC7.out.node.pl).free 0
              have T1 := HT.out 1 _ (by rw [hT]; rfl)
              have T4 := HT.out 4 _ (by rw [hT]; rfl)
              have T5 := HT.out 5 _ (by rw [hT]; rfl)
              have T6 := HT.out 6 _ (by rw [hT]; rfl)
              have T7 := HT.out 7 _ (by rw [hT]; rfl)
              have T8 := HT.out 8 _ (by rw [hT]; rfl)
              have T9 := HT.out 9 _ (by rw [hT]; rfl)
              have HTT : Hid (w8.cell? ⟨N + 1, 0, none⟩ = some (.pointer none) ∧ w8.cell? ⟨N + 1, 1, none⟩ = some (.slice (some ⟨N, 0, none⟩) 2 2) ∧ w8.cell? ⟨N + 1, 4, none⟩ = some (.pointer none) ∧ Ex4 w8 (N + 1) 5 ∧ I64 w8 (N + 1) 9 ∧ w8.cell? ⟨N + 1, 23, none⟩ = some (.bool false)) := ⟨HT.out 0 _ (by rw [hT]; rfl), T1, T4, ⟨_, _, _, _, T5, T6, T7, T8⟩, ⟨_, T9⟩, HT.out 23 _ (by rw [hT]; rfl)⟩
              have HNN : Hid (N = w7.heap.size) := hN
              have hHlt : H + 3 ≤ N := by rw [hN]; exact HZ7.out
              have hqN : qb ≠ N + 1 ∧ b ≠ N + 1 ∧ b ≠ N ∧ H ≠ N ∧ H ≠ N + 1 := by omega
              clear hw8 hwq hT CQ C8 HT hN T1 T4 T5 T6 T7 T8 T9 q3 b0 hH7 fq
              go_region
              all_goals (go_upto_region 28 with fail)
              obtain ⟨w9, hw9⟩ : ∃ w9, w9 = ((w8.setCell ⟨b, 0, none⟩ (.pointer (some ⟨N + 1, 0, none⟩))).setCell ⟨H, 0, none⟩ (.pointer (some ⟨N + 1, 0, none⟩))).drew := ⟨_, rfl⟩
              rw [← hw9]
              have C9 : Chg (fun x j => (x = b ∨ x = H) ∧ j = 0) w8 w9 := by rw [hw9]; exact (((Chg.refl _ w8).set b 0 _ (fun _ => ⟨Or.inl rfl, rfl⟩)).set H 0 _ (fun _ => ⟨Or.inr rfl, rfl⟩)).drew
              have b9 : w9.cell? ⟨b, 0, none⟩ = some (ptr (N + 1)) := by
                rw [hw9, cell_drew, World.cell?_setCell_other _ _ _ _ (by intro e; cases e; exact hbH rfl)]
                exact World.cell?_setCell_same _ _ _ b8
              have h9 : w9.cell? ⟨H, 0, none⟩ = some (ptr (N + 1)) := by
                rw [hw9, cell_drew]
                exact World.cell?_setCell_same _ _ _ (by rw [World.cell?_setCell_other _ _ _ _ (by intro e; cases e; exact hbH rfl)]; exact h8)
              have HC9 : Hid (Chg (fun x j => (x = b ∨ x = H) ∧ j = 0) w8 w9) := C9
              have q9 := C9.keep q8 (fun e => by rcases e.1 with e | e; exact hqb.1 e; exact hqH.1 e)
              have HC79 : Hid (Chg (fun x j => (x = qb ∧ j = qo + 3) ∨ ((x = b ∨ x = H) ∧ j = 0)) w7 w9) := (HC8.out.mono (fun x j _ e => Or.inl e)).trans C9 (fun x j _ e => Or.inr e)
              have hAN : A < H ∧ S < H := by rw [HH.out]; exact ⟨hAw, hSw⟩
              have hblt : b < H := by rw [HH.out]; exact hbw
              have hqA : qb ≠ A ∧ qb ≠ S := ⟨hqb.2.1, hqb.2.2⟩
              have LB9 : LeafAt w9 (some (N + 1)) F A S (J.take at') b := HLB7.out.reup HC79.out (fun j hj e => by rcases e with e | e; exact hqb.1 e.1.symm; exact hj e.2) (fun j e => by rcases e with e | e; exact hqA.1 e.1.symm; rcases e.1 with e | e; exact hbA e.symm; omega) (fun j e => by rcases e with e | e; exact hqA.2 e.1.symm; rcases e.1 with e | e; exact hbS e.symm; omega) b9
              have LC9 : LeafAt w9 (some (N + 1)) fc (H + 1) (H + 2) JY H := HLC7.out.reup HC79.out (fun j hj e => by rcases e with e | e; exact hqH.1 e.1.symm; exact hj e.2) (fun j e => by rcases e with e | e; exact hqH.2.1 e.1.symm; rcases e.1 with e | e; exact hHb.2.2.2.1 e; omega) (fun j e => by rcases e with e | e; exact hqH.2.2 e.1.symm; rcases e.1 with e | e; exact hHb.2.2.2.2.2.2.1 e; omega) h9
              obtain ⟨t0, t1, t4, t5, t9, t23⟩ := HTT.out
              have kr : ∀ j v, w8.cell? ⟨N + 1, j, none⟩ = some v → w9.cell? ⟨N + 1, j, none⟩ = some v := fun j v hc => C9.keep hc (fun e => by have := hqN; rcases e.1 with e | e <;> omega)
              have kN : ∀ i v, [ptr b, ptr H][i]? = some v → w9.cell? ⟨N, i, none⟩ = some v := fun i v hi' => C9.keep (HAN.out.cell i v hi') (fun e => by have := hqN; rcases e.1 with e | e <;> omega)
              have kq9 : ∀ j v, j ≠ qo + 3 → w.cell? ⟨qb, j, none⟩ = some v → w9.cell? ⟨qb, j, none⟩ = some v := fun j v hj hc => HC79.out.keep (HKQ.out j v hc) (fun e => by rcases e with e | e; exact hj e.2; rcases e.1 with e | e; exact hqb.1 e; exact hqH.1 e)
              have HKQ9 : Hid (∀ j v, j ≠ qo + 3 → w.cell? ⟨qb, j, none⟩ = some v → w9.cell? ⟨qb, j, none⟩ = some v) := kq9
              have HKR : Hid (∀ j v, w8.cell? ⟨N + 1, j, none⟩ = some v → w9.cell? ⟨N + 1, j, none⟩ = some v) := kr
              have HQ9 : Hid (w9.cell? ⟨qb, qo + 3, none⟩ = some (.pointer (some ⟨N + 1, 0, none⟩))) := q9
              have HLB9 : Hid (LeafAt w9 (some (N + 1)) F A S (J.take at') b) := LB9
              have HLC9 : Hid (LeafAt w9 (some (N + 1)) fc (H + 1) (H + 2) JY H) := LC9
              have hsum3 := sum68_inner qb qo (N + 1) N F 2 1 2 (fun i => if i = 0 then b else H) w9 rfl (by omega) (by omega) (kq9 _ _ (by omega) HQ.out.c2) hqN.1 (kr _ _ t1) ⟨_, kr _ _ t4⟩
                (by obtain ⟨x, y, z, v, z1, z2, z3, z4⟩ := t5; exact ⟨_, _, _, _, kr _ _ z1, kr _ _ z2, kr _ _ z3, kr _ _ z4⟩) (by obtain ⟨x, hx⟩ := t9; exact ⟨x, kr _ _ hx⟩) (fun j => (C9.pln _ _ HPR.out).free j)
                (fun i hi' => by
                  by_cases e : i = 0
                  · subst e
                    exact ⟨kN 0 _ rfl, LB9.node.c9, LB9.node.sp, hqN.2.1⟩
                  · obtain rfl : i = 1 := by omega
                    exact ⟨kN 1 _ rfl, LC9.node.c9, LC9.node.sp, hqN.2.2.2.2⟩)
                LB9.node.c4 (by omega)
              have HSUM3 : Hid (Calls Ybaz.prog 68 #[.pointer (some ⟨qb, qo, none⟩), .pointer (some ⟨N + 1, 0, none⟩)] w9 fun e w' => e = .returned (.tuple #[]) ∧ Chg (S49 (N + 1)) w9 w' ∧ Summed w' (N + 1) F) := hsum3
              clear hsum3 hw9 C9 b9 h9 q8 b8 h8 fb8 fh8 kr kN kq9 t0 t1 t4 t5 t9 t23 LB9 LC9
              go_wp2_with (first | (go_at_call 68; refine HSUM3.out.mono ?_; rintro e w10 ⟨rfl, hC10, hS10⟩; have HC10 : Hid (Chg (S49 (N + 1)) w9 w10) := hC10; have HS10 : Hid (Summed w10 (N + 1) F) := hS10; clear hC10 hS10) | go_in)
              refine bodyPost_ret (results_none rfl _ _ _) rfl ?_
              have IB : LeafAt w10 (some (N + 1)) (G.F b) (G.A b) (G.S b) (J.take at') b := by
                rw [← hFe.out, ← hA.out, ← hS.out]
                exact HLB9.out.next HC10.out (fun j e => hqN.2.1 e.1) (fun j e => by have := e.1; omega) (fun j e => by have := e.1; omega)
              have IC : LeafAt w10 (some (N + 1)) fc (H + 1) (H + 2) JY H := HLC9.out.next HC10.out (fun j e => by have := e.1; omega) (fun j e => by have := e.1; omega) (fun j e => by have := e.1; omega)
              have IR : InnerAt w10 none (G.F b) N 2 [b, H] (N + 1) := by
                rw [← hFe.out]
                obtain ⟨t0, t1, t4, t5, t9, t23⟩ := HTT.out
                have k10 : ∀ j v, j < 4 ∨ 9 < j → w9.cell? ⟨N + 1, j, none⟩ = some v → w10.cell? ⟨N + 1, j, none⟩ = some v := fun j v h hc => HC10.out.keep hc (fun e => by have := e.2; omega)
                refine ⟨⟨HC10.out.pln _ _ (HC9.out.pln _ _ HPR.out), k10 _ _ (by omega) (HKR.out _ _ t0), HS10.out.c4, HS10.out.sp, HS10.out.c9, k10 _ _ (by omega) (HKR.out _ _ t23)⟩, k10 _ _ (by omega) (HKR.out _ _ t1), ?_⟩
                exact (HAN.out.next HC9.out (fun j e => by have := hqN; rcases e.1 with e | e <;> omega)).next HC10.out (fun j e => by have := e.1; omega)
              have CT : Chg (fun x j => (x = A ∧ at' ≤ j) ∨ (x = b ∧ j ≤ 9) ∨ (x ∈ JY ∧ j = sl) ∨ (x = qb ∧ j = qo + 3)) w w10 :=
                ((HW7.out.mono (fun x j _ e => by rcases e with e | e | e; exact Or.inl e; exact Or.inr (Or.inl ⟨e.1, e.2.2⟩); exact Or.inr (Or.inr (Or.inl e)))).trans HC79.out (fun x j hx e => by rcases e with e | e; exact Or.inr (Or.inr (Or.inr e)); rcases e.1 with e1 | e1; exact Or.inr (Or.inl ⟨e1, by have := e.2; omega⟩); have := HH.out; omega)).trans HC10.out (fun x j hx e => by have := e.1; have := HH.out; omega)
              have hJRY : ∀ k ∈ JY, G.R k = none := fun k hk => HJR.out k (by rw [← hJe.out]; exact (HKYK.out k hk).1)
              obtain ⟨G2, j1, j2, j3⟩ := inv_cut_leaf_root (H := H) (fc := fc) (N := N) (r := N + 1) (JX := J.take at') (JY := JY) HI.out hD0 (by rw [HJY.out, List.take_append_drop, hJe.out]) (by rw [List.length_take, hJ]; omega) (by rw [HYL.out]; omega) HFC.out (by rw [HH.out]; exact Nat.le_refl _) (by omega) (by omega) (by omega) CT.size IB IC IR
              have kq10 : ∀ j v, j ≠ qo + 3 → w.cell? ⟨qb, j, none⟩ = some v → w10.cell? ⟨qb, j, none⟩ = some v := fun j v hj hc => HC10.out.keep (HKQ9.out j v hj hc) (fun e => hqN.1 e.1)
              have hRb := HI.out.shape.own 0 (by omega) b HBL.out
              have hRA : G.R A ≠ none := by rw [hA.out, hRb.2.1]; simp
              have hRB : G.R b ≠ none := by rw [hRb.1]; simp
              refine ⟨rfl, G2, N + 1, j1, j2, ?_, ?_, j3, fun x p hx hxq hc => ?_⟩
              · obtain ⟨tq, hq0⟩ := HQ.out.pl
                exact ⟨⟨tq, CT.pln _ _ hq0⟩, kq10 _ _ (by omega) HQ.out.c0, kq10 _ _ (by omega) HQ.out.c1, kq10 _ _ (by omega) HQ.out.c2, HC10.out.keep HQ9.out (fun e => hqN.1 e.1)⟩
              · exact CT.mono (fun x j _ e => by
                  rcases e with e | e | e | e
                  · left; rw [e.1]; exact hRA
                  · left; rw [e.1]; exact hRB
                  · right; right; exact ⟨by rw [← hJe.out]; exact (HKYK.out x e.1).1, e.2⟩
                  · right; left; exact e)
              · by_cases hxJ : x ∈ JY
                · refine ⟨H, HC10.out.keep (HC79.out.keep (HJL.out x hxJ) (fun e => ?_)) (fun e => ?_)⟩
                  · rcases e with e | e
                    · exact hxq e.1
                    · rcases e.1 with e1 | e1
                      · exact HNJ.out.1 (e1 ▸ hxJ)
                      · exact HNJ.out.2.2.2.2.1 (e1 ▸ hxJ)
                  · have h1 := (HKYK.out x hxJ).2
                    have := e.1; omega
                · refine ⟨p, CT.keep hc (fun e => ?_)⟩
                  rcases e with e | e | e | e
                  · rw [e.1] at hx; exact hRA hx
                  · rw [e.1] at hx; exact hRB hx
                  · exact hxJ e.1
                  · exact hxq e.1
end Go.Proofs.YbulkdxqmGreatFmt
