/- LawS6213CWhole: what a call may turn, cell by cell; count and sum by their contracts. -/
import Derived.Test.YbulkdxqmGreatFmtBase
import Derived.Deep.RegionWith
import Derived.ChangeAgain
namespace Go.Proofs.YbulkdxqmGreatFmt
set_option linter.unusedVariables false
set_option linter.unusedSimpArgs false
open Go.RowKit
attribute [local go_sem] run_store_floatB

/-- Plain memory of type t. -/
def Plain (w : World) (x t : Nat) : Prop := ∃ T, w.heap[x]? = some (.cells T t (0, 0))
theorem Plain.lt {w : World} {x t : Nat} (h : Plain w x t) : x < w.heap.size := by obtain ⟨T, hT⟩ := h; exact (Array.getElem?_eq_some_iff.1 hT).1
/-- Of the cells of w none is turned but those of S; new blocks may lie behind. -/
structure Chg (S : Nat → Nat → Prop) (w w' : World) : Prop where
  size : w.heap.size ≤ w'.heap.size
  os : w'.os = w.os
  tape : w'.tape = w.tape
  output : w'.output = w.output
  cell : ∀ x j, x < w.heap.size → ¬ S x j → w'.cell? ⟨x, j, none⟩ = w.cell? ⟨x, j, none⟩
  froz : ∀ x j, x < w.heap.size → w'.frozen? ⟨x, j, none⟩ = w.frozen? ⟨x, j, none⟩
  shp : ∀ x s, w.shape? x = some s → w'.shape? x = some s
  has : ∀ x j, (w.cell? ⟨x, j, none⟩).isSome = true → (w'.cell? ⟨x, j, none⟩).isSome = true
  blk : ∀ x, x < w.heap.size → (∀ j, ¬ S x j) → w'.heap[x]? = w.heap[x]?
  pln : ∀ x t, Plain w x t → Plain w' x t

theorem shape_lt {w : World} {x : Nat} {s : TypeId × Nat} (h : w.shape? x = some s) : x < w.heap.size := by
  unfold World.shape? at h
  by_cases hx : x < w.heap.size
  · exact hx
  · rw [Array.getElem?_eq_none (by omega)] at h; cases h
theorem some_lt {w : World} {x j : Nat} (h : (w.cell? ⟨x, j, none⟩).isSome = true) : x < w.heap.size := by
  obtain ⟨u, hu⟩ := Option.isSome_iff_exists.1 h
  exact World.block_lt_of_cell? _ _ hu
theorem shape_set (w : World) (b j : Nat) (v : Value) (x : Nat) (s : TypeId × Nat) (h : w.shape? x = some s) : (w.setCell ⟨b, j, none⟩ v).shape? x = some s :=
  (World.keptBut_setCell (may := fun _ => True) w ⟨b, j, none⟩ v trivial).shape h
theorem has_set (w : World) (b j : Nat) (v : Value) (x k : Nat) (h : (w.cell? ⟨x, k, none⟩).isSome = true) : ((w.setCell ⟨b, j, none⟩ v).cell? ⟨x, k, none⟩).isSome = true := by
  by_cases e : x = b ∧ k = j
  · obtain ⟨rfl, rfl⟩ := e
    obtain ⟨u, hu⟩ := Option.isSome_iff_exists.1 h
    have := World.cell?_setCell_same w ⟨x, k, none⟩ v hu
    rw [this]; rfl
  · rw [World.cell?_setCell_other _ _ _ _ (by intro h2; cases h2; exact e ⟨rfl, rfl⟩)]; exact h
theorem plain_set (w : World) (b j : Nat) (v : Value) (x t : Nat) (h : Plain w x t) : Plain (w.setCell ⟨b, j, none⟩ v) x t := by
  obtain ⟨T, hT⟩ := h
  by_cases e : x = b
  · subst e
    exact ⟨_, by rw [setCell_eq_setRow w x j T t (0, 0) v hT]; exact setRow_heap w x T _ t _ hT⟩
  · exact ⟨T, by rw [Below.heap_setCell _ _ _ _ e]; exact hT⟩
theorem Chg.refl (S : Nat → Nat → Prop) (w : World) : Chg S w w := ⟨Nat.le_refl _, rfl, rfl, rfl, fun _ _ _ _ => rfl, fun _ _ _ => rfl, fun _ _ h => h, fun _ _ h => h, fun _ _ _ => rfl, fun _ _ h => h⟩
theorem Chg.of_below {S : Nat → Nat → Prop} {w w' : World} (h : Below w.heap.size w w') : Chg S w w' :=
  ⟨h.size, h.os, h.tape, h.output, fun x j hx _ => World.cell?_of_block (h.block x hx), fun x j hx => World.frozen?_of_block (h.block x hx), fun x s hs => by unfold World.shape? at hs ⊢; rw [h.block x (shape_lt hs)]; exact hs, fun x j hs => by rw [World.cell?_of_block (h.block x (some_lt hs))]; exact hs, fun x hx _ => h.block x hx, fun x t hp => by obtain ⟨T, hT⟩ := hp; exact ⟨T, (h.block x (Array.getElem?_eq_some_iff.1 hT).1).trans hT⟩⟩
theorem Chg.trans {S S' : Nat → Nat → Prop} {w w1 w2 : World} (h : Chg S w w1) (h2 : Chg S' w1 w2) (hS : ∀ x j, x < w.heap.size → S' x j → S x j) : Chg S w w2 :=
  ⟨Nat.le_trans h.size h2.size, h2.os.trans h.os, h2.tape.trans h.tape, h2.output.trans h.output,
   fun x j hx hn => (h2.cell x j (Nat.lt_of_lt_of_le hx h.size) (fun e => hn (hS x j hx e))).trans (h.cell x j hx hn),
   fun x j hx => (h2.froz x j (Nat.lt_of_lt_of_le hx h.size)).trans (h.froz x j hx),
   fun x s hs => h2.shp x s (h.shp x s hs), fun x j hs => h2.has x j (h.has x j hs),
   fun x hx hn => (h2.blk x (Nat.lt_of_lt_of_le hx h.size) (fun j e => hn j (hS x j hx e))).trans (h.blk x hx hn),
   fun x t hp => h2.pln x t (h.pln x t hp)⟩
theorem Chg.mono {S S' : Nat → Nat → Prop} {w w1 : World} (h : Chg S w w1) (hS : ∀ x j, x < w.heap.size → S x j → S' x j) : Chg S' w w1 :=
  (Chg.refl S' w).trans h hS
theorem Chg.below {S : Nat → Nat → Prop} {w w1 w2 : World} (h : Chg S w w1) (h2 : Below w1.heap.size w1 w2) : Chg S w w2 := h.trans (Chg.of_below (S := S) h2) (fun _ _ _ h => h)
theorem Chg.set {S : Nat → Nat → Prop} {w w1 : World} (h : Chg S w w1) (b j : Nat) (v : Value) (hS : b < w.heap.size → S b j) : Chg S w (w1.setCell ⟨b, j, none⟩ v) := by
  refine ⟨by simpa using h.size, h.os, h.tape, h.output, fun x k hx hn => ?_, fun x k hx => by rw [World.frozen?_setCell]; exact h.froz x k hx, fun x s hs => shape_set _ _ _ _ _ _ (h.shp x s hs), fun x k hs => has_set _ _ _ _ _ _ (h.has x k hs), fun x hx hn => ?_, fun x t hp => plain_set _ _ _ _ _ _ (h.pln x t hp)⟩
  · rw [World.cell?_setCell_other _ _ _ _ (by intro e; cases e; exact hn (hS hx))]; exact h.cell x k hx hn
  · rw [Below.heap_setCell _ _ _ _ (by rintro rfl; exact hn j (hS hx))]; exact h.blk x hx hn
theorem Chg.alloc {S : Nat → Nat → Prop} {w w1 : World} (h : Chg S w w1) (o : Obj) : Chg S w (w1.alloc o) := h.below ((Below.refl _ _).alloc (Nat.le_refl _) _)
theorem Chg.drew {S : Nat → Nat → Prop} {w w1 : World} (h : Chg S w w1) : Chg S w w1.drew := h.below ⟨rfl, rfl, rfl, Nat.le_refl _, fun _ _ => rfl⟩
theorem Chg.drewN {S : Nat → Nat → Prop} {w w1 : World} (h : Chg S w w1) (q : Nat) : Chg S w (w1.drewN q) := h.below ⟨rfl, rfl, rfl, Nat.le_refl _, fun _ _ => rfl⟩
theorem Chg.keep {S : Nat → Nat → Prop} {w w1 : World} {x j : Nat} {v : Value} (h : Chg S w w1) (hc : w.cell? ⟨x, j, none⟩ = some v) (hn : ¬ S x j) : w1.cell? ⟨x, j, none⟩ = some v :=
  (h.cell x j (World.block_lt_of_cell? _ _ hc) hn).trans hc

/-- The four cells of a span. -/
def Sp (w : World) (b o : Nat) : Prop := ∃ x y z, w.cell? ⟨b, o, none⟩ = some (.int .i64 x) ∧ w.cell? ⟨b, o + 1, none⟩ = some (.int .i64 y) ∧ w.cell? ⟨b, o + 2, none⟩ = some (.int .i64 z) ∧ w.cell? ⟨b, o + 3, none⟩ = some (.float .f64 INF)
def I64 (w : World) (b o : Nat) : Prop := ∃ x, w.cell? ⟨b, o, none⟩ = some (.int .i64 x)
theorem Chg.sp {S : Nat → Nat → Prop} {w w1 : World} {b o : Nat} (h : Chg S w w1) (hs : Sp w b o) (hn : ∀ j, o ≤ j → j < o + 4 → ¬ S b j) : Sp w1 b o := by
  obtain ⟨x, y, z, h1, h2, h3, h4⟩ := hs
  exact ⟨x, y, z, h.keep h1 (hn _ (by omega) (by omega)), h.keep h2 (hn _ (by omega) (by omega)), h.keep h3 (hn _ (by omega) (by omega)), h.keep h4 (hn _ (by omega) (by omega))⟩

def S0 (x j : Nat) : Prop := False
/-- Four cells, whatever they hold. -/
def Ex4 (w : World) (b o : Nat) : Prop := ∃ x y z u, w.cell? ⟨b, o, none⟩ = some x ∧ w.cell? ⟨b, o + 1, none⟩ = some y ∧ w.cell? ⟨b, o + 2, none⟩ = some z ∧ w.cell? ⟨b, o + 3, none⟩ = some u
theorem Sp.ex {w : World} {b o : Nat} (h : Sp w b o) : Ex4 w b o := by obtain ⟨x, y, z, h1, h2, h3, h4⟩ := h; exact ⟨_, _, _, _, h1, h2, h3, h4⟩
def S9 (b : Nat) (x j : Nat) : Prop := x = b ∧ j = 9

theorem count78_leaf (b s n c : Nat) (w : World) (hn : n ≤ 1000) (h1 : w.cell? ⟨b, 1, none⟩ = some (.slice none 0 0)) (h3 : w.cell? ⟨b, 3, none⟩ = some (.slice (some ⟨s, 0, none⟩) n c)) (h9 : I64 w b 9) (hf : ∀ j, w.frozen? ⟨b, j, none⟩ = false) (hs : ∀ i, i < n → Sp w s (i * 4)) (hsb : s ≠ b) :
    Calls Ybaz.prog 78 #[.pointer (some ⟨b, 0, none⟩)] w fun e w' => e = .returned (.tuple #[]) ∧ Chg (S9 b) w w' ∧ I64 w' b 9 := by
  have q2 := fun (w : World) (a : Option Addr) (n c n' c' : Nat) => Lib.run_eql_slice_nil (P := Ybaz.prog) w _ _ a n c n' c' Ybaz.underlying35
  have HF : Hid (∀ j, w.frozen? ⟨b, j, none⟩ = false) := hf
  have f9 := hf 9
  have hb := World.block_lt_of_cell? _ _ h1
  obtain ⟨x9, c9⟩ := h9
  clear hf
  have HC : Hid (Chg (S9 b) w (w.setCell ⟨b, 9, none⟩ (.int .i64 0))) := (Chg.refl _ w).set b 9 _ (fun _ => ⟨rfl, rfl⟩)
  have HI : Hid (I64 (w.setCell ⟨b, 9, none⟩ (.int .i64 0)) b 9) := ⟨0, World.cell?_setCell_same _ _ _ c9⟩
  go_enter Ybaz.func78, Ybaz.ntmps78
  go_wp2
  go_loopw [19] (fun v wr => ∃ i : Nat, i ≤ n ∧ v = .int .i64 i ∧ Chg (S9 b) w wr ∧ I64 wr b 9) (fun v _ => n - (intOf v).toNat)
  case atStart => exact ⟨0, Nat.zero_le _, rfl, HC.out, HI.out⟩
  case round =>
    rename World => w1
    obtain ⟨i, hi, rfl, hC, ⟨y, hy⟩⟩ := hrel
    by_cases hlt : i < n
    · obtain ⟨p, q, r, p1, p2, p3, p4⟩ := hC.sp (hs i hlt) (fun j _ _ e => hsb e.1)
      have k1 : (i : Int) < (n : Int) := by omega
      have g9 := (hC.froz b 9 hb).trans f9
      have HC1 : Hid (Chg (S9 b) w w1) := hC
      have hz := hC.size
      have hb1 : b < w1.heap.size := Nat.lt_of_lt_of_le hb hC.size
      clear hC
      go_wp2
      go_region
      go_wp2
      go_roundw
      case rel => exact ⟨i + 1, by omega, by go_num, ((HC1.out.set b 9 _ (fun _ => ⟨rfl, rfl⟩)).alloc _).drew, _, (((Chg.refl S0 _).alloc _).drew).keep (World.cell?_setCell_same _ _ _ hy) id⟩
      case measure => simp [intOf]; omega
    · go_wp2
      refine bodyPost_ret (results_none rfl _ _ _) rfl ?_
      exact ⟨rfl, hC, y, hy⟩

/-- The kids' slots are numbers. -/
theorem count78_inner (b a n c : Nat) (K : Nat → Nat) (w : World) (hn : n ≤ 1000) (h1 : w.cell? ⟨b, 1, none⟩ = some (.slice (some ⟨a, 0, none⟩) n c)) (h9 : I64 w b 9) (hf : ∀ j, w.frozen? ⟨b, j, none⟩ = false) (hk : ∀ i, i < n → w.cell? ⟨a, i, none⟩ = some (.pointer (some ⟨K i, 0, none⟩)) ∧ I64 w (K i) 9 ∧ K i ≠ b) (hab : a ≠ b) :
    Calls Ybaz.prog 78 #[.pointer (some ⟨b, 0, none⟩)] w fun e w' => e = .returned (.tuple #[]) ∧ Chg (S9 b) w w' ∧ I64 w' b 9 := by
  have q2 := fun (w : World) (a : Option Addr) (n c n' c' : Nat) => Lib.run_eql_slice_nil (P := Ybaz.prog) w _ _ a n c n' c' Ybaz.underlying35
  have HF : Hid (∀ j, w.frozen? ⟨b, j, none⟩ = false) := hf
  have f9 := hf 9
  have hb := World.block_lt_of_cell? _ _ h1
  obtain ⟨x9, c9⟩ := h9
  clear hf
  have HC : Hid (Chg (S9 b) w (w.setCell ⟨b, 9, none⟩ (.int .i64 0))) := (Chg.refl _ w).set b 9 _ (fun _ => ⟨rfl, rfl⟩)
  have HI : Hid (I64 (w.setCell ⟨b, 9, none⟩ (.int .i64 0)) b 9) := ⟨0, World.cell?_setCell_same _ _ _ c9⟩
  go_enter Ybaz.func78, Ybaz.ntmps78
  go_wp2
  go_loopw [38] (fun v wr => ∃ i : Nat, i ≤ n ∧ v = .int .i64 i ∧ Chg (S9 b) w wr ∧ I64 wr b 9) (fun v _ => n - (intOf v).toNat)
  case atStart => exact ⟨0, Nat.zero_le _, rfl, HC.out, HI.out⟩
  case round =>
    rename World => w1
    obtain ⟨i, hi, rfl, hC, ⟨y, hy⟩⟩ := hrel
    by_cases hlt : i < n
    · obtain ⟨e1, ⟨z, e2⟩, e3⟩ := hk i hlt
      have p1 := hC.keep e1 (fun e => hab e.1)
      have p2 := hC.keep e2 (fun e => e3 e.1)
      have k1 : (i : Int) < (n : Int) := by omega
      have g9 := (hC.froz b 9 hb).trans f9
      have HC1 : Hid (Chg (S9 b) w w1) := hC
      clear hC
      go_wp2
      go_region
      go_wp2
      go_roundw
      case rel => exact ⟨i + 1, by omega, by go_num, (HC1.out.set b 9 _ (fun _ => ⟨rfl, rfl⟩)).drew, _, ((Chg.refl S0 _).drew).keep (World.cell?_setCell_same _ _ _ hy) id⟩
      case measure => simp [intOf]; omega
    · go_wp2
      go_end0
      exact ⟨rfl, hC, y, hy⟩

/-- What sum turns. -/
def S49 (b : Nat) (x j : Nat) : Prop := x = b ∧ 4 ≤ j ∧ j ≤ 9

/-- The facts that sum leaves of b. -/
structure Summed (w' : World) (b f : Nat) : Prop where
  c4 : w'.cell? ⟨b, 4, none⟩ = some (.pointer (some ⟨f, 0, none⟩))
  sp : Sp w' b 5
  c9 : I64 w' b 9

/-- Cells behind a write. -/
theorem cell_ne (w : World) (b j k : Nat) (v : Value) (h : k ≠ j) : (w.setCell ⟨b, j, none⟩ v).cell? ⟨b, k, none⟩ = w.cell? ⟨b, k, none⟩ :=
  World.cell?_setCell_other _ _ _ _ (by intro x; cases x; exact h rfl)
theorem cell_eq (w : World) (b j : Nat) (v : Value) (h : (w.cell? ⟨b, j, none⟩).isSome = true) : (w.setCell ⟨b, j, none⟩ v).cell? ⟨b, j, none⟩ = some v := by
  obtain ⟨u, hu⟩ := Option.isSome_iff_exists.1 h
  exact World.cell?_setCell_same _ _ _ hu
theorem s49 (b j : Nat) (h1 : 4 ≤ j) (h2 : j ≤ 9) : S49 b b j := ⟨rfl, h1, h2⟩
theorem cell_drew (w : World) (p : Addr) : w.drew.cell? p = w.cell? p := rfl
theorem cell_drewN (w : World) (q : Nat) (p : Addr) : (w.drewN q).cell? p = w.cell? p := rfl
theorem Chg.set_span {S : Nat → Nat → Prop} {w w1 : World} (h : Chg S w w1) (b : Nat) (x y z v : Value) (hS : b < w.heap.size → ∀ j, 5 ≤ j → j ≤ 8 → S b j) : Chg S w ((((w1.setCell ⟨b, 5, none⟩ x).setCell ⟨b, 6, none⟩ y).setCell ⟨b, 7, none⟩ z).setCell ⟨b, 8, none⟩ v) :=
  ((((h.set b 5 _ (fun e => hS e 5 (by omega) (by omega))).set b 6 _ (fun e => hS e 6 (by omega) (by omega))).set b 7 _ (fun e => hS e 7 (by omega) (by omega))).set b 8 _ (fun e => hS e 8 (by omega) (by omega)))

set_option maxRecDepth 100000 in
set_option maxHeartbeats 2000000 in
theorem sum68_leaf (qb qo b a s f n m c : Nat) (w : World) (hnm : n = m + 1) (hn : n ≤ 17) (hq : w.cell? ⟨qb, qo + 2, none⟩ = some (.bool false)) (hqb : qb ≠ b) (h1 : w.cell? ⟨b, 1, none⟩ = some (.slice none 0 0)) (h2 : w.cell? ⟨b, 2, none⟩ = some (.slice (some ⟨a, 0, none⟩) n c)) (h3 : w.cell? ⟨b, 3, none⟩ = some (.slice (some ⟨s, 0, none⟩) n 17))
    (h4 : ∃ v, w.cell? ⟨b, 4, none⟩ = some (.pointer v)) (h5 : Ex4 w b 5) (h9 : I64 w b 9) (hf : ∀ j, w.frozen? ⟨b, j, none⟩ = false) (ha : w.cell? ⟨a, 0, none⟩ = some (.pointer (some ⟨f, 0, none⟩))) (hs : ∀ i, i < n → Sp w s (i * 4)) (hsb : s ≠ b) (hab : a ≠ b) :
    Calls Ybaz.prog 68 #[.pointer (some ⟨qb, qo, none⟩), .pointer (some ⟨b, 0, none⟩)] w fun e w' => e = .returned (.tuple #[]) ∧ Chg (S49 b) w w' ∧ Summed w' b f := by
  have q2 := fun (w : World) (a : Option Addr) (n c n' c' : Nat) => Lib.run_eql_slice_nil (P := Ybaz.prog) w _ _ a n c n' c' Ybaz.underlying35
  have HNM : Hid (n = m + 1) := hnm
  have k0 : (0 : Int) < (n : Int) := by omega
  have k1 : n - 1 = m := by omega
  have k2 : 0 < n := by omega
  have k3 : ¬ ((n : Int) < 1) := by omega
  have k4 : ¬ (17 < n) := by omega
  clear hnm
  go_enter Ybaz.func68, Ybaz.ntmps68
  go_upto_region 1 with (go_at_call 78; refine (count78_leaf b s n 17 w (by omega) h1 h3 h9 hf hs hsb).mono ?_; rintro e w1 ⟨rfl, hC, h9'⟩; have HC1 : Hid (Chg (S9 b) w w1) := hC; have H9 : Hid (I64 w1 b 9) := h9'; clear hC h9')
  have d1 := HC1.out.keep h1 (fun e => by cases e.2)
  have d2 := HC1.out.keep h2 (fun e => by cases e.2)
  have d3 := HC1.out.keep h3 (fun e => by cases e.2)
  obtain ⟨v4, h4⟩ := h4
  have d4 := HC1.out.keep h4 (fun e => by cases e.2)
  have da := HC1.out.keep ha (fun e => hab e.1)
  have dq := HC1.out.keep hq (fun e => hqb e.1)
  obtain ⟨p5, p6, p7, p8, d5, d6, d7, d8⟩ : Ex4 w1 b 5 := by
    obtain ⟨x, y, z, u, z1, z2, z3, z4⟩ := h5
    exact ⟨x, y, z, u, HC1.out.keep z1 (fun e => by cases e.2), HC1.out.keep z2 (fun e => by cases e.2), HC1.out.keep z3 (fun e => by cases e.2), HC1.out.keep z4 (fun e => by cases e.2)⟩
  obtain ⟨r0, r1, r2, e0, e1, e2, e3⟩ := HC1.out.sp (hs 0 k2) (fun j _ _ e => hsb e.1)
  simp only [Nat.zero_mul, Nat.zero_add] at e0 e1 e2 e3
  obtain ⟨x9, d9⟩ := H9.out
  have hb : b < w1.heap.size := World.block_lt_of_cell? _ _ d1
  have HFR : Hid (∀ j, w.frozen? ⟨b, j, none⟩ = false) := hf
  have HBW : Hid (b < w.heap.size) := World.block_lt_of_cell? _ _ h1
  have hfr : ∀ j, w1.frozen? ⟨b, j, none⟩ = false := fun j => (HC1.out.froz b j (World.block_lt_of_cell? _ _ h1)).trans (hf j)
  have f4 := hfr 4
  have f5 := hfr 5
  have f6 := hfr 6
  have f7 := hfr 7
  have f8 := hfr 8
  have HC2 : Hid (Chg (S49 b) w w1) := HC1.out.mono (fun x j _ e => ⟨e.1, by have := e.2; omega, by have := e.2; omega⟩)
  have HQ : Hid (w.cell? ⟨qb, qo + 2, none⟩ = some (.bool false)) := hq
  clear h1 h2 h3 h4 h5 h9 ha hq hf hfr
  go_upto_region 2 with fail
  go_region
  go_wp2
  go_loopw [44] (fun v wr => ∃ i : Nat, i ≤ m ∧ v = .int .i64 i ∧ Chg (S49 b) w wr ∧ Summed wr b f) (fun v _ => m - (intOf v).toNat)
  case atStart =>
    refine ⟨0, Nat.zero_le _, rfl, ?_, ?_, ?_, ?_⟩
    · with_reducible (repeat (first | exact HC2.out | refine Chg.drew ?_ | refine Chg.set ?_ _ _ _ (fun _ => s49 _ _ (by omega) (by omega))))
    · simp [cell_ne, cell_eq, cell_drew, d4, d5, d6, d7, d8]
    · exact ⟨r0, r1, r2, by simp [cell_ne, cell_eq, cell_drew, d4, d5, d6, d7, d8], by simp [cell_ne, cell_eq, cell_drew, d4, d5, d6, d7, d8], by simp [cell_ne, cell_eq, cell_drew, d4, d5, d6, d7, d8], by simp [cell_ne, cell_eq, cell_drew, d4, d5, d6, d7, d8]⟩
    · exact ⟨x9, by simp [cell_ne, cell_eq, cell_drew, d4, d5, d6, d7, d8, d9]⟩
  case round =>
    rename World => w3
    obtain ⟨i, hi, rfl, hC, hS⟩ := hrel
    clear d1 d2 d3 d4 d5 d6 d7 d8 d9 da e0 e1 e2 e3 f4 f5 f6 f7 f8
    by_cases hlt : i < m
    · obtain ⟨p, q, r, p1, p2, p3, p4⟩ := hC.sp (hs (i + 1) (by have := HNM.out; omega)) (fun j _ _ e => hsb e.1)
      rw [show (i + 1) * 4 = 4 + i * 4 from by omega] at p1 p2 p3 p4
      obtain ⟨x, y, z, g5, g6, g7, g8⟩ := hS.sp
      have HC3 : Hid (Chg (S49 b) w w3) := hC
      have HS3 : Hid (Summed w3 b f) := hS
      have l1 : (i : Int) < (m : Int) := by omega
      have hb3 : b < w3.heap.size := World.block_lt_of_cell? _ _ hS.c4
      have hfr : ∀ j, w3.frozen? ⟨b, j, none⟩ = false := fun j => (hC.froz b j HBW.out).trans (HFR.out j)
      have f5 := hfr 5
      have f6 := hfr 6
      have f7 := hfr 7
      have f8 := hfr 8
      clear hC hS hfr
      go_upto_region 6 with fail
      obtain ⟨w4, hw4⟩ : ∃ w4, w4 = w3.alloc (.cells #[.int .i64 p, .int .i64 q, .int .i64 r, .float .f64 INF] 134) := ⟨_, rfl⟩
      rw [← hw4]
      have HW4 : Hid (Below w3.heap.size w3 w4) := by rw [hw4]; exact (Below.refl _ _).alloc (Nat.le_refl _) _
      have v5 := (HW4.out.cell (p := ⟨b, 5, none⟩) hb3).trans g5
      have v6 := (HW4.out.cell (p := ⟨b, 6, none⟩) hb3).trans g6
      have v7 := (HW4.out.cell (p := ⟨b, 7, none⟩) hb3).trans g7
      have v8 := (HW4.out.cell (p := ⟨b, 8, none⟩) hb3).trans g8
      have y0 : w4.cell? ⟨w3.heap.size, 0, none⟩ = some (.int .i64 p) := by rw [hw4, cell_of_row _ _ _ _ _ _ (heap_alloc_new _ _)]; rfl
      have y1 : w4.cell? ⟨w3.heap.size, 1, none⟩ = some (.int .i64 q) := by rw [hw4, cell_of_row _ _ _ _ _ _ (heap_alloc_new _ _)]; rfl
      have y2 : w4.cell? ⟨w3.heap.size, 2, none⟩ = some (.int .i64 r) := by rw [hw4, cell_of_row _ _ _ _ _ _ (heap_alloc_new _ _)]; rfl
      have y3 : w4.cell? ⟨w3.heap.size, 3, none⟩ = some (.float .f64 INF) := by rw [hw4, cell_of_row _ _ _ _ _ _ (heap_alloc_new _ _)]; rfl
      clear hw4
      have hb4 : b < w4.heap.size := World.block_lt_of_cell? _ _ v5
      have HN3 : Hid (∀ j, w4.frozen? ⟨b, j, none⟩ = false) := fun j => (World.frozen?_of_block (HW4.out.block b hb3)).trans ((HC3.out.froz b j HBW.out).trans (HFR.out j))
      go_region_with (go_at_call 40; refine (join40 x y z p q r w4.drew).mono ?_; rintro e w5 ⟨⟨j1, j2, j3, rfl⟩, hB5⟩; have HB5 : Hid (Below w4.drew.heap.size w4.drew w5) := hB5; have t5 := (hB5.cell (p := ⟨b, 5, none⟩) hb4).trans v5; have t6 := (hB5.cell (p := ⟨b, 6, none⟩) hb4).trans v6; have t7 := (hB5.cell (p := ⟨b, 7, none⟩) hb4).trans v7; have t8 := (hB5.cell (p := ⟨b, 8, none⟩) hb4).trans v8; have s5 := (World.frozen?_of_block (hB5.block b hb4)).trans (HN3.out 5); have s6 := (World.frozen?_of_block (hB5.block b hb4)).trans (HN3.out 6); have s7 := (World.frozen?_of_block (hB5.block b hb4)).trans (HN3.out 7); have s8 := (World.frozen?_of_block (hB5.block b hb4)).trans (HN3.out 8); clear hB5)
      all_goals (go_wp2; go_roundw)
      all_goals first
        | (simp [intOf]; omega)
        | (have t4 := (HB5.out.cell (p := ⟨b, 4, none⟩) hb4).trans ((HW4.out.cell (p := ⟨b, 4, none⟩) hb3).trans HS3.out.c4)
           obtain ⟨x9', y9⟩ := HS3.out.c9
           have t9 := (HB5.out.cell (p := ⟨b, 9, none⟩) hb4).trans ((HW4.out.cell (p := ⟨b, 9, none⟩) hb3).trans y9)
           have HC5 : Chg (S49 b) w w5 := ((HC3.out.below HW4.out).drew).below HB5.out
           refine ⟨i + 1, by omega, by go_num, ?_, ?_, ?_, ?_⟩
           · with_reducible (repeat (first | exact HC5 | refine Chg.drew ?_ | refine Chg.set ?_ _ _ _ (fun _ => s49 _ _ (by omega) (by omega))))
           · simp [cell_ne, cell_eq, cell_drew, t4]
           · exact ⟨j1, j2, j3, by simp [cell_ne, cell_eq, cell_drew, t5, t6, t7, t8], by simp [cell_ne, cell_eq, cell_drew, t5, t6, t7, t8], by simp [cell_ne, cell_eq, cell_drew, t5, t6, t7, t8], by simp [cell_ne, cell_eq, cell_drew, t5, t6, t7, t8]⟩
           · exact ⟨x9', by simp [cell_ne, cell_eq, cell_drew, t9]⟩)
    · have dq3 := hC.keep HQ.out (fun e => hqb e.1)
      have HC3 : Hid (Chg (S49 b) w w3) := hC
      have HS3 : Hid (Summed w3 b f) := hS
      clear hC hS
      go_wp2
      refine bodyPost_ret (results_none rfl _ _ _) rfl ?_
      exact ⟨rfl, HC3.out, HS3.out⟩

set_option maxRecDepth 100000 in
set_option maxHeartbeats 2000000 in
/-- The kids: their places, spans and slots are what they ought to be; f is the first kid's first job. -/
theorem sum68_inner (qb qo b a f n m c : Nat) (K : Nat → Nat) (w : World) (hnm : n = m + 1) (hn : n ≤ 17) (hc : 1 < c) (hq : w.cell? ⟨qb, qo + 2, none⟩ = some (.bool false)) (hqb : qb ≠ b) (h1 : w.cell? ⟨b, 1, none⟩ = some (.slice (some ⟨a, 0, none⟩) n c))
    (h4 : ∃ v, w.cell? ⟨b, 4, none⟩ = some (.pointer v)) (h5 : Ex4 w b 5) (h9 : I64 w b 9) (hf : ∀ j, w.frozen? ⟨b, j, none⟩ = false) (hk : ∀ i, i < n → w.cell? ⟨a, i, none⟩ = some (.pointer (some ⟨K i, 0, none⟩)) ∧ I64 w (K i) 9 ∧ Sp w (K i) 5 ∧ K i ≠ b) (hk4 : w.cell? ⟨K 0, 4, none⟩ = some (.pointer (some ⟨f, 0, none⟩))) (hab : a ≠ b) :
    Calls Ybaz.prog 68 #[.pointer (some ⟨qb, qo, none⟩), .pointer (some ⟨b, 0, none⟩)] w fun e w' => e = .returned (.tuple #[]) ∧ Chg (S49 b) w w' ∧ Summed w' b f := by
  have q2 := fun (w : World) (a : Option Addr) (n c n' c' : Nat) => Lib.run_eql_slice_nil (P := Ybaz.prog) w _ _ a n c n' c' Ybaz.underlying35
  have HNM : Hid (n = m + 1) := hnm
  have k0 : (0 : Int) < (n : Int) := by omega
  have k1 : n - 1 = m := by omega
  have k2 : 0 < n := by omega
  have k3 : ¬ ((n : Int) < 1) := by omega
  clear hnm
  go_enter Ybaz.func68, Ybaz.ntmps68
  go_upto_region 1 with (go_at_call 78; refine (count78_inner b a n c K w (by omega) h1 h9 hf (fun i hi => ⟨(hk i hi).1, (hk i hi).2.1, (hk i hi).2.2.2⟩) hab).mono ?_; rintro e w1 ⟨rfl, hC, h9'⟩; have HC1 : Hid (Chg (S9 b) w w1) := hC; have H9 : Hid (I64 w1 b 9) := h9'; clear hC h9')
  have d1 := HC1.out.keep h1 (fun e => by cases e.2)
  obtain ⟨v4, h4⟩ := h4
  have d4 := HC1.out.keep h4 (fun e => by cases e.2)
  have da := HC1.out.keep (hk 0 k2).1 (fun e => hab e.1)
  have dk := HC1.out.keep hk4 (fun e => (hk 0 k2).2.2.2 e.1)
  have dq := HC1.out.keep hq (fun e => hqb e.1)
  obtain ⟨p5, p6, p7, p8, d5, d6, d7, d8⟩ : Ex4 w1 b 5 := by
    obtain ⟨x, y, z, u, z1, z2, z3, z4⟩ := h5
    exact ⟨x, y, z, u, HC1.out.keep z1 (fun e => by cases e.2), HC1.out.keep z2 (fun e => by cases e.2), HC1.out.keep z3 (fun e => by cases e.2), HC1.out.keep z4 (fun e => by cases e.2)⟩
  obtain ⟨r0, r1, r2, e0, e1, e2, e3⟩ := HC1.out.sp (hk 0 k2).2.2.1 (fun j _ _ e => (hk 0 k2).2.2.2 e.1)
  obtain ⟨x9, d9⟩ := H9.out
  have hb : b < w1.heap.size := World.block_lt_of_cell? _ _ d1
  have HFR : Hid (∀ j, w.frozen? ⟨b, j, none⟩ = false) := hf
  have HBW : Hid (b < w.heap.size) := World.block_lt_of_cell? _ _ h1
  have HK : Hid (∀ i, i < n → w.cell? ⟨a, i, none⟩ = some (.pointer (some ⟨K i, 0, none⟩)) ∧ I64 w (K i) 9 ∧ Sp w (K i) 5 ∧ K i ≠ b) := hk
  have hfr : ∀ j, w1.frozen? ⟨b, j, none⟩ = false := fun j => (HC1.out.froz b j (World.block_lt_of_cell? _ _ h1)).trans (hf j)
  have f4 := hfr 4
  have f5 := hfr 5
  have f6 := hfr 6
  have f7 := hfr 7
  have f8 := hfr 8
  have HC2 : Hid (Chg (S49 b) w w1) := HC1.out.mono (fun x j _ e => ⟨e.1, by have := e.2; omega, by have := e.2; omega⟩)
  have HQ : Hid (w.cell? ⟨qb, qo + 2, none⟩ = some (.bool false)) := hq
  clear h1 h4 h5 h9 hq hf hfr hk hk4
  go_upto_region 16 with fail
  go_region
  go_wp2
  go_loopw [112] (fun v wr => ∃ i : Nat, i ≤ m ∧ v = .int .i64 i ∧ Chg (S49 b) w wr ∧ Summed wr b f) (fun v _ => m - (intOf v).toNat)
  case atStart =>
    refine ⟨0, Nat.zero_le _, rfl, ?_, ?_, ?_, ?_⟩
    · with_reducible (repeat (first | exact HC2.out | refine Chg.drew ?_ | refine Chg.set ?_ _ _ _ (fun _ => s49 _ _ (by omega) (by omega))))
    · simp [cell_ne, cell_eq, cell_drew, d4, d5, d6, d7, d8]
    · exact ⟨r0, r1, r2, by simp [cell_ne, cell_eq, cell_drew, d4, d5, d6, d7, d8], by simp [cell_ne, cell_eq, cell_drew, d4, d5, d6, d7, d8], by simp [cell_ne, cell_eq, cell_drew, d4, d5, d6, d7, d8], by simp [cell_ne, cell_eq, cell_drew, d4, d5, d6, d7, d8]⟩
    · exact ⟨x9, by simp [cell_ne, cell_eq, cell_drew, d4, d5, d6, d7, d8, d9]⟩
  case round =>
    rename World => w3
    obtain ⟨i, hi, rfl, hC, hS⟩ := hrel
    clear d1 d4 d5 d6 d7 d8 d9 da dk dq e0 e1 e2 e3 f4 f5 f6 f7 f8
    by_cases hlt : i < m
    · obtain ⟨a1, _, a2, a3⟩ := HK.out (i + 1) (by have := HNM.out; omega)
      obtain ⟨p, q, r, p1, p2, p3, p4⟩ := hC.sp a2 (fun j _ _ e => a3 e.1)
      have ea := hC.keep a1 (fun e => hab e.1)
      rw [show i + 1 = 1 + i from by omega] at ea p1 p2 p3 p4
      obtain ⟨x, y, z, g5, g6, g7, g8⟩ := hS.sp
      have HC3 : Hid (Chg (S49 b) w w3) := hC
      have HS3 : Hid (Summed w3 b f) := hS
      have l1 : (i : Int) < (m : Int) := by omega
      have hb3 : b < w3.heap.size := World.block_lt_of_cell? _ _ hS.c4
      have HN3 : Hid (∀ j, w3.frozen? ⟨b, j, none⟩ = false) := fun j => (hC.froz b j HBW.out).trans (HFR.out j)
      clear hC hS a1 a2
      go_upto_region 20 with fail
      go_region_with (go_at_call 40; refine (join40 x y z p q r w3.drew).mono ?_; rintro e w5 ⟨⟨j1, j2, j3, rfl⟩, hB5⟩; have HB5 : Hid (Below w3.drew.heap.size w3.drew w5) := hB5; have t5 := (hB5.cell (p := ⟨b, 5, none⟩) hb3).trans g5; have t6 := (hB5.cell (p := ⟨b, 6, none⟩) hb3).trans g6; have t7 := (hB5.cell (p := ⟨b, 7, none⟩) hb3).trans g7; have t8 := (hB5.cell (p := ⟨b, 8, none⟩) hb3).trans g8; have s5 := (World.frozen?_of_block (hB5.block b hb3)).trans (HN3.out 5); have s6 := (World.frozen?_of_block (hB5.block b hb3)).trans (HN3.out 6); have s7 := (World.frozen?_of_block (hB5.block b hb3)).trans (HN3.out 7); have s8 := (World.frozen?_of_block (hB5.block b hb3)).trans (HN3.out 8); clear hB5)
      all_goals (go_wp2; go_roundw)
      all_goals first
        | (simp [intOf]; omega)
        | (have t4 := (HB5.out.cell (p := ⟨b, 4, none⟩) hb3).trans HS3.out.c4
           obtain ⟨x9', y9⟩ := HS3.out.c9
           have t9 := (HB5.out.cell (p := ⟨b, 9, none⟩) hb3).trans y9
           have HC5 : Chg (S49 b) w w5 := (HC3.out.drew).below HB5.out
           refine ⟨i + 1, by omega, by go_num, ?_, ?_, ?_, ?_⟩
           · with_reducible (repeat (first | exact HC5 | refine Chg.drew ?_ | refine Chg.set ?_ _ _ _ (fun _ => s49 _ _ (by omega) (by omega))))
           · simp [cell_ne, cell_eq, cell_drew, t4]
           · exact ⟨j1, j2, j3, by simp [cell_ne, cell_eq, cell_drew, t5, t6, t7, t8], by simp [cell_ne, cell_eq, cell_drew, t5, t6, t7, t8], by simp [cell_ne, cell_eq, cell_drew, t5, t6, t7, t8], by simp [cell_ne, cell_eq, cell_drew, t5, t6, t7, t8]⟩
           · exact ⟨x9', by simp [cell_ne, cell_eq, cell_drew, t9]⟩)
    · have dq3 := hC.keep HQ.out (fun e => hqb e.1)
      have HC3 : Hid (Chg (S49 b) w w3) := hC
      have HS3 : Hid (Summed w3 b f) := hS
      clear hC hS
      go_wp2
      go_end0
      exact ⟨rfl, HC3.out, HS3.out⟩
end Go.Proofs.YbulkdxqmGreatFmt
