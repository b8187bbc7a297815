/- LawS6213CWhole: insert into a queue that holds a job. -/
import Derived.Test.YbulkdxqmGreatFmtSplitL
import Derived.Test.YbulkdxqmGreatFmtPutM
import Derived.Test.YbulkdxqmGreatFmtFind
import Derived.Test.YbulkdxqmGreatFmtHeld
namespace Go.Proofs.YbulkdxqmGreatFmt
set_option linter.unusedVariables false
set_option linter.unusedSimpArgs false
open Go.RowKit
attribute [local go_sem] run_store_floatB

/-- A job's own cells. -/
structure JobAt (w : World) (j : Nat) (id slots : Int) : Prop where
  pl : Plain w j 32
  lv : ∀ t, t < 3 → (w.cell? ⟨j, t, none⟩).isSome = true
  c4 : w.cell? ⟨j, 4, none⟩ = some (.bool false)
  c6 : w.cell? ⟨j, 6, none⟩ = some (.int .i64 id)
  c8 : w.cell? ⟨j, 8, none⟩ = some (.int .i64 slots)
  c18 : w.cell? ⟨j, 18, none⟩ = some (.bool false)
theorem JobAt.next {w w' : World} {X : Nat → Nat → Prop} {j : Nat} {id slots : Int} (h : JobAt w j id slots) (hc : Chg X w w') (hX : ∀ t, 3 ≤ t → ¬ X j t) : JobAt w' j id slots :=
  ⟨hc.pln _ _ h.pl, fun t ht => hc.has _ _ (h.lv t ht), hc.keep h.c4 (hX _ (by omega)), hc.keep h.c6 (hX _ (by omega)), hc.keep h.c8 (hX _ (by omega)), hc.keep h.c18 (hX _ (by omega))⟩

theorem Inv.next {w w' : World} {X : Nat → Nat → Prop} {G : Gh} {over : Option Nat} {root : Nat} (h : Inv w G over root) (hc : Chg X w w') (hX : ∀ x t, x < w.heap.size → X x t → G.R x = none) : Inv w' G over root := by
  have far : ∀ x y t, G.R x = some y → ¬ X x t := fun x y t hx e => by
    have hlt : x < w.heap.size := by
      rcases Nat.lt_or_ge x w.heap.size with h' | h'
      · exact h'
      · rw [h.new x h'] at hx; cases hx
    rw [hX x t hlt e] at hx; cases hx
  refine ⟨h.shape, fun b hb => ?_, fun l hl b hb => ?_, fun x hx => h.new x (Nat.le_trans hc.size hx)⟩
  · obtain ⟨o1, o2, o3⟩ := h.shape.own 0 (by omega) b hb
    exact (h.leaf b hb).next hc (fun t => far _ _ t o1) (fun t => far _ _ t o2) (fun t => far _ _ t (o3 rfl))
  · obtain ⟨o1, o2, _⟩ := h.shape.own (l + 1) (by omega) b hb
    exact (h.inner l hl b hb).next hc (fun t => far _ _ t o1) (fun t => far _ _ t o2)

/-- How many come before. -/
theorem count_before (f : Nat → Int) (v : Int) : ∀ xs : List Nat, xs.Pairwise (fun a b => f a < f b) → (∀ x ∈ xs, f x ≠ v) → ∃ t, t ≤ xs.length ∧ (∀ i k, i < t → xs[i]? = some k → f k < v) ∧ (∀ i k, t ≤ i → xs[i]? = some k → v < f k)
  | [], _, _ => ⟨0, Nat.le_refl _, fun i k h => by omega, fun i k _ h => by simp at h⟩
  | x :: xs, hp, hne => by
    obtain ⟨h1, h2⟩ := List.pairwise_cons.1 hp
    by_cases hx : f x < v
    · obtain ⟨t, t1, t2, t3⟩ := count_before f v xs h2 (fun y hy => hne y (by simp [hy]))
      refine ⟨t + 1, by simp; omega, fun i k hi hk => ?_, fun i k hi hk => ?_⟩
      · cases i with
        | zero => simp at hk; rw [← hk]; exact hx
        | succ i => exact t2 i k (by omega) (by simpa using hk)
      · cases i with
        | zero => omega
        | succ i => exact t3 i k (by omega) (by simpa using hk)
    · have hxv : v < f x := by have := hne x (by simp); omega
      refine ⟨0, Nat.zero_le _, fun i k hi => by omega, fun i k _ hk => ?_⟩
      cases i with
      | zero => simp at hk; rw [← hk]; exact hxv
      | succ i =>
        have := h1 k (List.mem_of_getElem? (by simpa using hk))
        omega

theorem Shape.F_flat {G : Gh} {over : Option Nat} {root : Nat} (h : Shape G over root) (l : Nat) (hl : l ≤ G.D) (x : Nat) (hx : x ∈ G.L l) : G.F x ∈ G.flat := by
  obtain ⟨y, hy, e, _⟩ := h.anc_of l hl x hx
  rw [e]
  exact List.mem_flatMap.2 ⟨y, hy, List.mem_of_mem_head? (h.leaf y hy).2.2⟩

theorem eqIn35 (w : World) (d : Nat) (a : Option Addr) (n c : Nat) : (Op.equalIn (d + 1) 35 (.slice a n c) (.slice none 0 0)).run Ybaz.prog w = .ok a.isNone w := by
  cases a <;> simp [Op.equalIn, run_underlying Ybaz.underlying35]
theorem neq35 (w : World) (a : Option Addr) (n c : Nat) : (binOp .neq 35 (.slice a n c) (.slice none 0 0)).run Ybaz.prog w = .ok (.bool (!a.isNone)) w := by
  have h : (Op.equal 35 (.slice a n c) (.slice none 0 0)).run Ybaz.prog w = .ok a.isNone w := eqIn35 w 9999 a n c
  simp [binOp, h]
theorem max0 (w : World) (t i0 : Nat) (h : i0 = t - 1) : (Builtin.max_ #[3, 3] 3 #[.int .i64 ((t : Int) - 1), .int .i64 0]).run Ybaz.prog w = .ok (.int .i64 (i0 : Int)) w := by
  subst h
  by_cases e : t = 0
  · subst e; simp [Builtin.max_, Builtin.max2]
  · have h1 : ¬ ((t : Int) - 1 < 0) := by omega
    have h2 : (((t - 1 : Nat)) : Int) = (t : Int) - 1 := by omega
    rw [h2]
    simp [Builtin.max_, Builtin.max2, h1]

def upMeas (G : Gh) : Value → Nat
  | .pointer (some a) => G.D + 1 - levOf G a.block
  | _ => 0

/-- The row of one element that a variadic argument lies in, k cells. -/
theorem Arr.oneK (w : World) (e k : Nat) (T : Array Value) (hk : T.size = k) (h1 : ∀ v ∈ T.toList, v.oneCell' = true) : Arr (w.alloc (.cells T e)) w.heap.size e k 1 1 T.toList := by
  refine ⟨fun j u hj => ?_, fun j hj => ?_, fun j => frozen_of_row _ _ _ _ _ (heap_alloc_new _ _), ?_, by simp [hk], Nat.le_refl _, by omega, h1⟩
  · rw [cell_of_row _ _ _ _ _ _ (heap_alloc_new _ _)]; simpa using hj
  · rw [cell_of_row _ _ _ _ _ _ (heap_alloc_new _ _), Array.getElem?_eq_getElem (by omega)]; rfl
  · unfold World.shape?
    rw [heap_alloc_new]
    show some (e, T.size) = _
    rw [hk, Nat.one_mul]

theorem insAt_map (J : List Nat) (i j : Nat) : (insAt J i j).map ptr = insL (J.map ptr) [ptr j] i := by
  simp [insAt, insL, List.map_take, List.map_drop]

def boxLev (G : Gh) (B : Nat) (w : World) : Nat := ((w.cell? ⟨B, 0, none⟩).map (fun v => levOf G (blkOf v))).getD 0

set_option maxHeartbeats 8000000 in
set_option maxRecDepth 100000 in
theorem insert15 (G : Gh) (w : World) (root qb qo sl j : Nat) (n mv : Int) (id slots : Nat → Int) (hI : Inv w G none root) (hq : QAt w qb qo sl root) (hqn : w.cell? ⟨qb, qo + 4, none⟩ = some (.int .i64 n)) (hqm : w.cell? ⟨qb, qo + 6, none⟩ = some (.int .i64 mv)) (hn1 : 0 ≤ n) (hn2 : n ≤ 1000000) (hRq : G.R qb = none) (hsl : sl < 3)
    (hj : JobAt w j (id j) (slots j)) (hjR : G.R j = none) (hjq : j ≠ qb) (hjob : ∀ k ∈ G.flat, G.R k = none ∧ k ≠ qb ∧ JobAt w k (id k) (slots k)) (hs : G.flat.Pairwise (fun a b => id a < id b)) (hne : ∀ k ∈ G.flat, id k ≠ id j) :
    Calls Ybaz.prog 15 #[.pointer (some ⟨qb, qo, none⟩), .pointer (some ⟨j, 0, none⟩)] w fun e w' => e = .returned (.tuple #[]) ∧ ∃ G' root', Inv w' G' none root' ∧ G'.flat.Pairwise (fun a b => id a < id b) ∧ (∀ a, a ∈ G'.flat ↔ a = j ∨ a ∈ G.flat) ∧ QAt w' qb qo sl root' ∧ w'.cell? ⟨qb, qo + 4, none⟩ = some (.int .i64 (n + 1)) ∧ I64 w' qb (qo + 6) ∧
      Chg (fun x t => G.R x ≠ none ∨ (x = qb ∧ (t = qo + 3 ∨ t = qo + 4 ∨ t = qo + 6)) ∨ ((x = j ∨ x ∈ G.flat) ∧ t = sl)) w w' ∧ (∀ x, x < w.heap.size → (G'.R x = none ↔ G.R x = none)) ∧ ∃ p, w'.cell? ⟨j, sl, none⟩ = some (ptr p) := by
  have hroot : root ∈ G.L G.D := by rw [hI.shape.top]; simp
  have hRt := hI.node G.D (Nat.le_refl _) root hroot
  have HI : Hid (Inv w G none root) := hI
  have HQ : Hid (QAt w qb qo sl root) := hq
  have HRQ : Hid (G.R qb = none ∧ G.R j = none ∧ j ≠ qb) := ⟨hRq, hjR, hjq⟩
  have HJB : Hid (∀ k ∈ G.flat, G.R k = none ∧ k ≠ qb ∧ JobAt w k (id k) (slots k)) := hjob
  have HJ : Hid (JobAt w j (id j) (slots j)) := hj
  have HS : Hid (G.flat.Pairwise (fun a b => id a < id b)) := hs
  have HNE : Hid (∀ k ∈ G.flat, id k ≠ id j) := hne
  have c3 := hq.c3
  have c2 := hq.c2
  have r23 := hRt.c23
  have j4 := hj.c4
  have j8 := hj.c8
  have j18 := hj.c18
  have hqw : qb < w.heap.size := World.block_lt_of_cell? _ _ c3
  have hjw : j < w.heap.size := hj.pl.lt
  have hrw : root < w.heap.size := hRt.pl.lt
  have fq : ∀ t, w.frozen? ⟨qb, t, none⟩ = false := fun t => by obtain ⟨tq, hq0⟩ := hq.pl; exact hq0.free t
  have f4 := fq (qo + 4)
  have f6 := fq (qo + 6)
  have wn : IntKind.i64.wrap (n + 1) = n + 1 := by rw [IntKind.wrap_i64]; omega
  clear hI hq hjob hj hs hne hRq hjR hRt hroot fq
  go_enter Ybaz.func15, Ybaz.ntmps15
  go_upto_region 1 with (go_at_call 31; refine (settle31 qb qo root _ c3 r23).mono ?_; rintro e w1 ⟨rfl, hw⟩; obtain rfl : w = w1 := hw.symm)
  go_upto_region 2 with (go_at_call 32; refine (spanOf32 j (slots j) _ j8 j4 j18).mono ?_; rintro e w1 ⟨rfl, hB1⟩; have HB1 : Hid (Below w.heap.size w w1) := hB1; clear hB1)
  go_upto_region 3 with fail
  obtain ⟨SP, hSP⟩ : ∃ SP, SP = w1.heap.size := ⟨_, rfl⟩
  rw [← hSP]
  obtain ⟨w2, hw2⟩ : ∃ w2, w2 = (w1.alloc (.cells #[Value.int IntKind.i64 (slots j), Value.int IntKind.i64 (slots j), Value.int IntKind.i64 (slots j), Value.float FloatKind.f64 INF] 134)).alloc
      (.cells #[Value.int IntKind.i64 0, Value.int IntKind.i64 0, Value.int IntKind.i64 0, Value.int IntKind.i64 0,
          Value.float FloatKind.f64 0, Value.float FloatKind.f64 0, Value.float FloatKind.f64 0,
          Value.float FloatKind.f64 0, Value.float FloatKind.f64 0, Value.float FloatKind.f64 0,
          Value.float FloatKind.f64 0, Value.float FloatKind.f64 0, Value.pointer none] 137) := ⟨_, rfl⟩
  rw [← hw2]
  have C2 : Chg S0 w w2 := by rw [hw2]; exact ((Chg.of_below HB1.out).alloc _).alloc _
  have HSP : Hid (w.heap.size ≤ SP ∧ SP + 2 = w2.heap.size) := by
    refine ⟨?_, ?_⟩
    · rw [hSP]; exact HB1.out.size
    · rw [hw2, hSP]; simp
  have hs0 : w2.heap[SP]? = some (.cells #[Value.int IntKind.i64 (slots j), Value.int IntKind.i64 (slots j), Value.int IntKind.i64 (slots j), Value.float FloatKind.f64 INF] 134) := by
    rw [hw2, Below.heap_alloc _ _ _ (by simp [hSP]), hSP]; exact heap_alloc_new _ _
  have s0 : w2.cell? ⟨SP, 0, none⟩ = some (.int .i64 (slots j)) := by rw [cell_of_row _ _ _ _ _ _ hs0]; rfl
  have s1 : w2.cell? ⟨SP, 1, none⟩ = some (.int .i64 (slots j)) := by rw [cell_of_row _ _ _ _ _ _ hs0]; rfl
  have s2 : w2.cell? ⟨SP, 2, none⟩ = some (.int .i64 (slots j)) := by rw [cell_of_row _ _ _ _ _ _ hs0]; rfl
  have s3 : w2.cell? ⟨SP, 3, none⟩ = some (.float .f64 INF) := by rw [cell_of_row _ _ _ _ _ _ hs0]; rfl
  have HSC : Hid (w2.cell? ⟨SP, 0, none⟩ = some (.int .i64 (slots j)) ∧ w2.cell? ⟨SP, 1, none⟩ = some (.int .i64 (slots j)) ∧ w2.cell? ⟨SP, 2, none⟩ = some (.int .i64 (slots j)) ∧ w2.cell? ⟨SP, 3, none⟩ = some (.float .f64 INF)) := ⟨s0, s1, s2, s3⟩
  have HC2 : Hid (Chg S0 w w2) := C2
  have e2 := C2.keep c2 (fun e => e)
  have e3 := C2.keep c3 (fun e => e)
  have e4 := C2.keep hqn (fun e => e)
  have e6 := C2.keep hqm (fun e => e)
  have ej := C2.keep j4 (fun e => e)
  have g4 := (C2.froz qb (qo + 4) hqw).trans f4
  have g6 := (C2.froz qb (qo + 6) hqw).trans f6
  clear C2 hw2 hSP hs0 s0 s1 s2 s3 c2 c3 hqn hqm j4 j8 j18 f4 f6
  go_upto_region 13 with fail
  obtain ⟨w3, hw3⟩ : ∃ w3, w3 = (w2.setCell ⟨qb, qo + 4, none⟩ (.int .i64 (n + 1))).setCell ⟨qb, qo + 6, none⟩ (.int .i64 (wrap64 (mv + 1))) := ⟨_, rfl⟩
  rw [← hw3]
  have C3 : Chg (fun x t => x = qb ∧ (t = qo + 4 ∨ t = qo + 6)) w w3 := by
    rw [hw3]
    exact ((HC2.out.mono (fun _ _ _ e => False.elim e)).set qb (qo + 4) _ (fun _ => ⟨rfl, Or.inl rfl⟩)).set qb (qo + 6) _ (fun _ => ⟨rfl, Or.inr rfl⟩)
  have hz3 : w3.heap.size = SP + 2 := by rw [hw3, HSP.out.2]; simp
  have x3 : w3.cell? ⟨qb, qo + 3, none⟩ = some (.pointer (some ⟨root, 0, none⟩)) := C3.keep HQ.out.c3 (fun e => by have := e.2; omega)
  have HX4 : Hid (w3.cell? ⟨qb, qo + 4, none⟩ = some (.int .i64 (n + 1)) ∧ I64 w3 qb (qo + 6)) := by
    rw [hw3]
    exact ⟨by rw [cell_ne _ _ _ _ _ (by omega)]; exact World.cell?_setCell_same _ _ _ e4, _, World.cell?_setCell_same _ _ _ (by rw [cell_ne _ _ _ _ _ (by omega)]; exact e6)⟩
  have hqSP : SP ≠ qb := by have := HSP.out.1; omega
  have HSC3 : Hid (w3.cell? ⟨SP, 0, none⟩ = some (.int .i64 (slots j)) ∧ w3.cell? ⟨SP, 1, none⟩ = some (.int .i64 (slots j)) ∧ w3.cell? ⟨SP, 2, none⟩ = some (.int .i64 (slots j)) ∧ w3.cell? ⟨SP, 3, none⟩ = some (.float .f64 INF)) := by
    have k : ∀ t v, w2.cell? ⟨SP, t, none⟩ = some v → w3.cell? ⟨SP, t, none⟩ = some v := fun t v hc => by
      rw [hw3, World.cell?_setCell_other _ _ _ _ (by intro e; cases e; exact hqSP rfl), World.cell?_setCell_other _ _ _ _ (by intro e; cases e; exact hqSP rfl)]; exact hc
    obtain ⟨s0, s1, s2, s3⟩ := HSC.out
    exact ⟨k _ _ s0, k _ _ s1, k _ _ s2, k _ _ s3⟩
  have HC3 : Hid (Chg (fun x t => x = qb ∧ (t = qo + 4 ∨ t = qo + 6)) w w3) := C3
  clear hw3 e2 e3 e4 e6 ej g4 g6 C3
  go_upto_region 14 with fail
  obtain ⟨B, hB⟩ : ∃ B, B = SP + 2 := ⟨_, rfl⟩
  rw [← hB]
  obtain ⟨wB, hwB⟩ : ∃ wB, wB = w3.alloc (.cells #[.pointer (some ⟨root, 0, none⟩)] 25) := ⟨_, rfl⟩
  rw [← hwB]
  have HCB : Hid (Chg (fun x t => x = qb ∧ (t = qo + 4 ∨ t = qo + 6)) w wB) := by show Chg _ _ _; rw [hwB]; exact HC3.out.alloc _
  have HCB3 : Hid (Chg S0 w3 wB) := by show Chg _ _ _; rw [hwB]; exact (Chg.refl S0 w3).alloc _
  have hB0 : wB.heap[B]? = some (.cells #[.pointer (some ⟨root, 0, none⟩)] 25) := by rw [hwB, hB, ← hz3]; exact heap_alloc_new _ _
  have HB0 : Hid (wB.cell? ⟨B, 0, none⟩ = some (ptr root)) := by show _ = _; rw [cell_of_row _ _ _ _ _ _ hB0]; rfl
  have HPB : Hid (Plain wB B 25) := ⟨_, hB0⟩
  have HBn : Hid (w.heap.size ≤ SP ∧ SP + 2 = B ∧ B + 1 = wB.heap.size) := ⟨HSP.out.1, hB.symm, by rw [hwB]; simp; omega⟩
  have HIB : Hid (Inv wB G none root) := HI.out.next HCB.out (fun x t _ e => by rw [e.1]; exact HRQ.out.1)
  have hRlt : ∀ x, G.R x ≠ none → x < w.heap.size := fun x hx => by
    rcases Nat.lt_or_ge x w.heap.size with h | h
    · exact h
    · exact absurd (HI.out.new x h) hx
  have HRL : Hid (∀ x, G.R x ≠ none → x < w.heap.size) := hRlt
  have hBq : qb ≠ B ∧ j ≠ B ∧ SP ≠ B := by have := HBn.out; omega
  have q0 : wB.cell? ⟨qb, qo, none⟩ = some (.func (.func 4) #[] #[]) := HCB.out.keep HQ.out.c0 (fun e => by have := e.2; omega)
  have jB6 : wB.cell? ⟨j, 6, none⟩ = some (.int .i64 (id j)) := HCB.out.keep HJ.out.c6 (fun e => HRQ.out.2.2 e.1)
  have HFB : Hid (∀ k ∈ G.flat, k ≠ B ∧ wB.cell? ⟨k, 6, none⟩ = some (.int .i64 (id k))) := fun k hk => by
    obtain ⟨_, k2, k3⟩ := HJB.out k hk
    exact ⟨by have := k3.pl.lt; have := HBn.out; omega, HCB.out.keep k3.c6 (fun e => k2 e.1)⟩
  have q2 := neq35
  clear hwB hB hB0 hz3 x3 hRlt
  go_loopw [] (fun wr => ∃ l pl x ql, l ≤ G.D ∧ Pos G id (id j) l x pl ql ∧ wr.cell? ⟨B, 0, none⟩ = some (ptr x) ∧ Chg (fun y t => y = B) wB wr) (fun wr => boxLev G B wr)
  case atStart => exact ⟨G.D, [], root, [], Nat.le_refl _, Pos.top HI.out.shape id (id j), HB0.out, Chg.refl _ _⟩
  case round =>
    rename World => w4
    obtain ⟨l, pl, x, ql, hl, hpos, hx0, hC4⟩ := hrel
    have hlev : boxLev G B w4 = l := by unfold boxLev; rw [hx0]; exact HI.out.shape.levOf l hl x hpos.mem
    cases l with
    | zero =>
      have hIB4 : Inv w4 G none root := HIB.out.next hC4 (fun y t _ e => by
        cases hR : G.R y with
        | none => rfl
        | some z => have := HRL.out y (by rw [hR]; simp); have := HBn.out; omega)
      have hLf := hIB4.leaf x hpos.mem
      have hnin := HI.out.shape.leaf x hpos.mem
      have hov : (G.J x).length ≤ 16 := hnin.2.1
      have hne : ∀ k ∈ G.J x, id k ≠ id j := fun k hk => HNE.out _ (List.mem_flatMap.2 ⟨x, hpos.mem, hk⟩)
      have hasc : (G.J x).Pairwise (fun a b => id a < id b) := pairwise_part HS.out x hpos.mem
      obtain ⟨i, hi1, hi2, hi3⟩ := count_before id (id j) (G.J x) hasc hne
      obtain ⟨n', hn'⟩ : ∃ n', n' = (G.J x).length := ⟨_, rfl⟩
      have hbef := before_37 qb qo j B x (G.A x) n' (n' - 1) 17 i (fun t => (G.J x).getD t 0) (fun t => id ((G.J x).getD t 0)) (id j) w4 (by omega) (by omega) (by omega)
        (hC4.keep q0 (fun e => hBq.1 e)) hx0 (by rw [hn']; exact hLf.c2) (fun t ht => by
          have hil : t < (G.J x).length := by omega
          have e1 : (G.J x).getD t 0 = (G.J x)[t] := by simp [List.getD, List.getElem?_eq_getElem hil]
          show w4.cell? ⟨G.A x, t, none⟩ = some (.pointer (some ⟨(G.J x).getD t 0, 0, none⟩)) ∧ w4.cell? ⟨(G.J x).getD t 0, 6, none⟩ = some (.int .i64 (id ((G.J x).getD t 0)))
          rw [e1]
          have hf := HFB.out _ (List.mem_flatMap.2 ⟨x, hpos.mem, List.getElem_mem hil⟩)
          exact ⟨hLf.ja.cell t _ (by rw [List.getElem?_map, List.getElem?_eq_getElem hil]; rfl), hC4.keep hf.2 (fun e => hf.1 e)⟩)
        (hC4.keep jB6 (fun e => hBq.2.1 e))
        (fun t ht => hi2 t _ ht (by simp [List.getD, List.getElem?_eq_getElem (show t < (G.J x).length by omega)])) (fun t ht ht' => hi3 t _ ht (by simp [List.getD, List.getElem?_eq_getElem (show t < (G.J x).length by omega)]))
      have hb16 : 0 < n' ∧ n' ≤ 16 ∧ i ≤ n' := by omega
      obtain ⟨A, hA⟩ : ∃ A, Hid (A = G.A x) := ⟨_, rfl⟩
      obtain ⟨S, hSe⟩ : ∃ S, Hid (S = G.S x) := ⟨_, rfl⟩
      obtain ⟨J, hJe⟩ : ∃ J, Hid (J = G.J x) := ⟨_, rfl⟩
      rw [← hA.out, ← hSe.out, ← hJe.out] at hLf
      rw [← hJe.out] at hn'
      have HBEF : Hid (Calls Ybaz.prog 35 #[.pointer (some ⟨qb, qo, none⟩), .pointer (some ⟨j, 0, none⟩), .int .i64 n', .func (.func 37) #[] #[.pointer (some ⟨B, 0, none⟩)]] w4 fun e w' => e = .returned (.int .i64 i) ∧ Below w4.heap.size w4 w') := hbef
      have HC4 : Hid (Chg (fun y t => y = B) wB w4) := hC4
      have HPOS : Hid (Pos G id (id j) 0 x pl ql) := hpos
      have HI4 : Hid (Inv w4 G none root) := hIB4
      have HLO : Hid ((∀ t k, t < i → (G.J x)[t]? = some k → id k < id j) ∧ (∀ t k, i ≤ t → (G.J x)[t]? = some k → id j < id k)) := ⟨hi2, hi3⟩
      have HN : Hid (n' = J.length ∧ 0 < n' ∧ n' ≤ 16 ∧ i ≤ n') := ⟨hn', hb16.1, hb16.2.1, hb16.2.2⟩
      have hxb0 : w4.cell? ⟨B, 0, none⟩ = some (.pointer (some ⟨x, 0, none⟩)) := hx0
      have x1 := hLf.c1
      have x2 := hLf.c2
      have x3 := hLf.c3
      rw [← hn'] at x2 x3
      have HLF : Hid (LeafAt w4 (G.U x) (G.F x) A S J x) := hLf
      clear hIB4 hLf hnin hov hne hasc hi1 hi2 hi3 hbef hC4 hpos hlev hx0 hn'
      go_upto_region 17 with (go_at_call 35; refine HBEF.out.mono ?_; rintro e w5 ⟨rfl, hB5⟩; have HB5 : Hid (Below w4.heap.size w4 w5) := hB5; clear hB5)
      have HC5 : Hid (Chg S0 w4 w5) := Chg.of_below HB5.out
      have HL5 : Hid (LeafAt w5 (G.U x) (G.F x) A S J x) := HLF.out.next HC5.out (fun _ e => e) (fun _ e => e) (fun _ e => e)
      have y0 := HC5.out.keep hxb0 (fun e => e)
      have y2 := HC5.out.keep x2 (fun e => e)
      have y3 := HC5.out.keep x3 (fun e => e)
      obtain ⟨ox1, ox2, ox3⟩ := HI.out.shape.own 0 (by omega) x HPOS.out.mem
      have ox3 := ox3 rfl
      rw [← hA.out] at ox2
      rw [← hSe.out] at ox3
      have HOX : Hid (G.R x = some (x, 0) ∧ G.R A = some (x, 1) ∧ G.R S = some (x, 2)) := ⟨ox1, ox2, ox3⟩
      have hxA : x ≠ A := fun e => by rw [← e, ox1] at ox2; injection ox2 with e2; injection e2 with e3 e4; cases e4
      have hxS : x ≠ S := fun e => by rw [← e, ox1] at ox3; injection ox3 with e2; injection e2 with e3 e4; cases e4
      have hAS : A ≠ S := fun e => by rw [e, ox3] at ox2; injection ox2 with e2; injection e2 with e3 e4; cases e4
      have hRl : x < w.heap.size ∧ A < w.heap.size ∧ S < w.heap.size := ⟨HRL.out _ (by rw [ox1]; simp), HRL.out _ (by rw [ox2]; simp), HRL.out _ (by rw [ox3]; simp)⟩
      have hBl := HBn.out
      have hBA : B ≠ A ∧ B ≠ S ∧ SP ≠ A ∧ SP ≠ S ∧ B ≠ x ∧ SP ≠ x := by omega
      have HSP5 : Hid (w5.cell? ⟨SP, 0, none⟩ = some (.int .i64 (slots j)) ∧ w5.cell? ⟨SP, 1, none⟩ = some (.int .i64 (slots j)) ∧ w5.cell? ⟨SP, 2, none⟩ = some (.int .i64 (slots j)) ∧ w5.cell? ⟨SP, 3, none⟩ = some (.float .f64 INF)) := by
        have k : ∀ t v, w3.cell? ⟨SP, t, none⟩ = some v → w5.cell? ⟨SP, t, none⟩ = some v := fun t v hc => HC5.out.keep (HC4.out.keep (HCB3.out.keep hc (fun e => e)) (fun e => hBq.2.2 e)) (fun e => e)
        obtain ⟨s0, s1, s2, s3⟩ := HSC3.out
        exact ⟨k _ _ s0, k _ _ s1, k _ _ s2, k _ _ s3⟩
      have hsk : ∀ W : World, Chg (fun y _ => y = A ∨ y = S) w5 W → (fun w' : World => w'.cell? ⟨B, 0, none⟩ = some (.pointer (some ⟨x, 0, none⟩)) ∧ w'.cell? ⟨x, 2, none⟩ = some (.slice (some ⟨A, 0, none⟩) n' 17) ∧ w'.cell? ⟨x, 3, none⟩ = some (.slice (some ⟨S, 0, none⟩) n' 17) ∧ w'.cell? ⟨SP, 0, none⟩ = some (.int .i64 (slots j)) ∧ w'.cell? ⟨SP, 1, none⟩ = some (.int .i64 (slots j)) ∧ w'.cell? ⟨SP, 2, none⟩ = some (.int .i64 (slots j)) ∧ w'.cell? ⟨SP, 3, none⟩ = some (.float .f64 INF)) W := fun W hW => by
        obtain ⟨s0, s1, s2, s3⟩ := HSP5.out
        have nB : ∀ t, ¬ ((fun y (_ : Nat) => y = A ∨ y = S) B t) := fun t e => by rcases e with e | e; exact hBA.1 e; exact hBA.2.1 e
        have nx : ∀ t, ¬ ((fun y (_ : Nat) => y = A ∨ y = S) x t) := fun t e => by rcases e with e | e; exact hxA e; exact hxS e
        have nS : ∀ t, ¬ ((fun y (_ : Nat) => y = A ∨ y = S) SP t) := fun t e => by rcases e with e | e; exact hBA.2.2.1 e; exact hBA.2.2.2.1 e
        exact ⟨hW.keep y0 (nB 0), hW.keep y2 (nx 2), hW.keep y3 (nx 3), hW.keep s0 (nS 0), hW.keep s1 (nS 1), hW.keep s2 (nS 2), hW.keep s3 (nS 3)⟩
      obtain ⟨xs, hxa, hxs⟩ := HL5.out.sa
      have hja := HL5.out.ja
      rw [← HN.out.1] at hja hxa hxs
      have hn17 : n' < 17 := by have := HN.out; omega
      have hin : i ≤ n' := HN.out.2.2.2
      have h38 : ∀ (W : World) (vb : Nat), Chg (fun y _ => y = A ∨ y = S) w5 W → Arr W A 23 1 n' 17 (J.map ptr) → Arr W vb 23 1 1 1 [ptr j] → vb ≠ A → Calls Ybaz.prog 38 #[.slice (some ⟨A, 0, none⟩) n' 17, .int .i64 i, .slice (some ⟨vb, 0, none⟩) 1 1] W fun e w' => e = .returned (.slice (some ⟨A, 0, none⟩) (n' + 1) 17) ∧ Arr w' A 23 1 (n' + 1) 17 (insL (J.map ptr) [ptr j] i) ∧ Chg (fun y _ => y = A) W w' ∧ Chg (fun y _ => y = A ∨ y = S) w5 w' := fun W vb hW hA' hV hvb => by
        refine (ins38_room A n' 17 i vb (J.map ptr) [ptr j] W hA' hin hn17 hV hvb).mono ?_
        rintro e w' ⟨rfl, z1, z2⟩
        rw [Nat.mul_one] at z1
        exact ⟨rfl, z1, z2, hW.trans z2 (fun y t _ e => Or.inl e)⟩
      have hone4 : ∀ v ∈ ([.int .i64 (slots j), .int .i64 (slots j), .int .i64 (slots j), .float .f64 INF] : List Value), v.oneCell' = true := by simp [Value.oneCell']
      have hsp1 : SpL 1 [.int .i64 (slots j), .int .i64 (slots j), .int .i64 (slots j), .float .f64 INF] := fun t ht => by
        obtain rfl : t = 0 := by omega
        exact ⟨_, _, _, rfl, rfl, rfl, rfl⟩
      have h39 : ∀ (W : World) (vb : Nat), Chg (fun y _ => y = A ∨ y = S) w5 W → Arr W S 134 4 n' 17 xs → Arr W vb 134 4 1 1 [.int .i64 (slots j), .int .i64 (slots j), .int .i64 (slots j), .float .f64 INF] → vb ≠ S → Calls Ybaz.prog 39 #[.slice (some ⟨S, 0, none⟩) n' 17, .int .i64 i, .slice (some ⟨vb, 0, none⟩) 1 1] W fun e w' => e = .returned (.slice (some ⟨S, 0, none⟩) (n' + 1) 17) ∧ Chg (fun y _ => y = S) W w' ∧ Chg (fun y _ => y = A ∨ y = S) w5 w' ∧ ∃ ys, Arr w' S 134 4 (n' + 1) 17 ys ∧ SpL (n' + 1) ys := fun W vb hW hA' hV hvb => by
        refine (ins39_room S n' 17 i vb xs [.int .i64 (slots j), .int .i64 (slots j), .int .i64 (slots j), .float .f64 INF] W hA' hin hn17 hV hvb).mono ?_
        rintro e w' ⟨rfl, z1, z2⟩
        exact ⟨rfl, z2, hW.trans z2 (fun y t _ e => Or.inr e), _, z1, hxs.ins hA'.len hin hsp1 rfl⟩
      have hfin : ∀ w9 : World, Chg (fun y _ => y = A ∨ y = S) w5 w9 → Arr w9 A 23 1 (n' + 1) 17 (insL (J.map ptr) [ptr j] i) → (∃ ys, Arr w9 S 134 4 (n' + 1) 17 ys ∧ SpL (n' + 1) ys) → (fun wx => Chg (fun y t => y = A ∨ y = S ∨ (y = x ∧ (t = 2 ∨ t = 3))) w5 wx ∧ wx.cell? ⟨x, 2, none⟩ = some (.slice (some ⟨A, 0, none⟩) (n' + 1) 17) ∧ wx.cell? ⟨x, 3, none⟩ = some (.slice (some ⟨S, 0, none⟩) (n' + 1) 17) ∧ Arr wx A 23 1 (n' + 1) 17 (insL (J.map ptr) [ptr j] i) ∧ ∃ ys, Arr wx S 134 4 (n' + 1) 17 ys ∧ SpL (n' + 1) ys) ((w9.setCell ⟨x, 2, none⟩ (.slice (some ⟨A, 0, none⟩) (n' + 1) 17)).setCell ⟨x, 3, none⟩ (.slice (some ⟨S, 0, none⟩) (n' + 1) 17)) := fun w9 hc9 ha9 hs9 => by
        obtain ⟨_, z2, z3, _⟩ := hsk w9 hc9
        have cc : Chg (fun y t => y = x ∧ (t = 2 ∨ t = 3)) w9 ((w9.setCell ⟨x, 2, none⟩ (.slice (some ⟨A, 0, none⟩) (n' + 1) 17)).setCell ⟨x, 3, none⟩ (.slice (some ⟨S, 0, none⟩) (n' + 1) 17)) := ((Chg.refl _ w9).set x 2 _ (fun _ => ⟨rfl, Or.inl rfl⟩)).set x 3 _ (fun _ => ⟨rfl, Or.inr rfl⟩)
        obtain ⟨ys, zs, zp⟩ := hs9
        refine ⟨(hc9.mono (fun y t _ e => by rcases e with e | e; exact Or.inl e; exact Or.inr (Or.inl e))).trans cc (fun y t _ e => Or.inr (Or.inr e)), ?_, ?_, ha9.next cc (fun t e => hxA e.1.symm), ys, zs.next cc (fun t e => hxS e.1.symm), zp⟩
        · rw [cell_ne _ _ _ _ _ (by omega)]; exact World.cell?_setCell_same _ _ _ z2
        · exact World.cell?_setCell_same _ _ _ (by rw [cell_ne _ _ _ _ _ (by omega)]; exact z3)
      have HFIN : Hid (∀ w9 : World, Chg (fun y _ => y = A ∨ y = S) w5 w9 → Arr w9 A 23 1 (n' + 1) 17 (insL (J.map ptr) [ptr j] i) → (∃ ys, Arr w9 S 134 4 (n' + 1) 17 ys ∧ SpL (n' + 1) ys) → (fun wx => Chg (fun y t => y = A ∨ y = S ∨ (y = x ∧ (t = 2 ∨ t = 3))) w5 wx ∧ wx.cell? ⟨x, 2, none⟩ = some (.slice (some ⟨A, 0, none⟩) (n' + 1) 17) ∧ wx.cell? ⟨x, 3, none⟩ = some (.slice (some ⟨S, 0, none⟩) (n' + 1) 17) ∧ Arr wx A 23 1 (n' + 1) 17 (insL (J.map ptr) [ptr j] i) ∧ ∃ ys, Arr wx S 134 4 (n' + 1) 17 ys ∧ SpL (n' + 1) ys) ((w9.setCell ⟨x, 2, none⟩ (.slice (some ⟨A, 0, none⟩) (n' + 1) 17)).setCell ⟨x, 3, none⟩ (.slice (some ⟨S, 0, none⟩) (n' + 1) 17))) := hfin
      have HSK : Hid (∀ W : World, Chg (fun y _ => y = A ∨ y = S) w5 W → (fun w' : World => w'.cell? ⟨B, 0, none⟩ = some (.pointer (some ⟨x, 0, none⟩)) ∧ w'.cell? ⟨x, 2, none⟩ = some (.slice (some ⟨A, 0, none⟩) n' 17) ∧ w'.cell? ⟨x, 3, none⟩ = some (.slice (some ⟨S, 0, none⟩) n' 17) ∧ w'.cell? ⟨SP, 0, none⟩ = some (.int .i64 (slots j)) ∧ w'.cell? ⟨SP, 1, none⟩ = some (.int .i64 (slots j)) ∧ w'.cell? ⟨SP, 2, none⟩ = some (.int .i64 (slots j)) ∧ w'.cell? ⟨SP, 3, none⟩ = some (.float .f64 INF)) W) := hsk
      have H38 : Hid (∀ (W : World) (vb : Nat), Chg (fun y _ => y = A ∨ y = S) w5 W → Arr W A 23 1 n' 17 (J.map ptr) → Arr W vb 23 1 1 1 [ptr j] → vb ≠ A → Calls Ybaz.prog 38 #[.slice (some ⟨A, 0, none⟩) n' 17, .int .i64 i, .slice (some ⟨vb, 0, none⟩) 1 1] W fun e w' => e = .returned (.slice (some ⟨A, 0, none⟩) (n' + 1) 17) ∧ Arr w' A 23 1 (n' + 1) 17 (insL (J.map ptr) [ptr j] i) ∧ Chg (fun y _ => y = A) W w' ∧ Chg (fun y _ => y = A ∨ y = S) w5 w') := h38
      have H39 : Hid (∀ (W : World) (vb : Nat), Chg (fun y _ => y = A ∨ y = S) w5 W → Arr W S 134 4 n' 17 xs → Arr W vb 134 4 1 1 [.int .i64 (slots j), .int .i64 (slots j), .int .i64 (slots j), .float .f64 INF] → vb ≠ S → Calls Ybaz.prog 39 #[.slice (some ⟨S, 0, none⟩) n' 17, .int .i64 i, .slice (some ⟨vb, 0, none⟩) 1 1] W fun e w' => e = .returned (.slice (some ⟨S, 0, none⟩) (n' + 1) 17) ∧ Chg (fun y _ => y = S) W w' ∧ Chg (fun y _ => y = A ∨ y = S) w5 w' ∧ ∃ ys, Arr w' S 134 4 (n' + 1) 17 ys ∧ SpL (n' + 1) ys) := h39
      have HJA : Hid (Arr w5 A 23 1 n' 17 (J.map ptr)) := hja
      have HXA : Hid (Arr w5 S 134 4 n' 17 xs) := hxa
      have fx : ∀ (W : World) t, Chg (fun y _ => y = A ∨ y = S) w5 W → W.frozen? ⟨x, t, none⟩ = false := fun W t hW => (hW.pln _ _ HL5.out.node.pl).free t
      have HFX : Hid (∀ (W : World) t, Chg (fun y _ => y = A ∨ y = S) w5 W → W.frozen? ⟨x, t, none⟩ = false) := fx
      have hA5 : A < w5.heap.size := HJA.out.lt
      have hS5 : S < w5.heap.size := HXA.out.lt
      clear hfin hsk h38 h39 hja hxa hxs hsp1 hone4 fx ox1 ox2 ox3
      go_cut [] from 142 to 163 (fun wx => Chg (fun y t => y = A ∨ y = S ∨ (y = x ∧ (t = 2 ∨ t = 3))) w5 wx ∧ wx.cell? ⟨x, 2, none⟩ = some (.slice (some ⟨A, 0, none⟩) (n' + 1) 17) ∧ wx.cell? ⟨x, 3, none⟩ = some (.slice (some ⟨S, 0, none⟩) (n' + 1) 17) ∧ Arr wx A 23 1 (n' + 1) 17 (insL (J.map ptr) [ptr j] i) ∧ ∃ ys, Arr wx S 134 4 (n' + 1) 17 ys ∧ SpL (n' + 1) ys)
      case first =>
        refine wp_region_T [1, 18, 19, 20, 21, 22, 23] (fun w' : World => w'.cell? ⟨B, 0, none⟩ = some (.pointer (some ⟨x, 0, none⟩)) ∧ w'.cell? ⟨x, 2, none⟩ = some (.slice (some ⟨A, 0, none⟩) n' 17) ∧ w'.cell? ⟨x, 3, none⟩ = some (.slice (some ⟨S, 0, none⟩) n' 17) ∧ w'.cell? ⟨SP, 0, none⟩ = some (.int .i64 (slots j)) ∧ w'.cell? ⟨SP, 1, none⟩ = some (.int .i64 (slots j)) ∧ w'.cell? ⟨SP, 2, none⟩ = some (.int .i64 (slots j)) ∧ w'.cell? ⟨SP, 3, none⟩ = some (.float .f64 INF)) (fun w' : World => w'.cell? ⟨B, 0, none⟩ = some (.pointer (some ⟨x, 0, none⟩))) (by kernel_rfl) ?_
        have hSS : (fun w' : World => w'.cell? ⟨B, 0, none⟩ = some (.pointer (some ⟨x, 0, none⟩)) ∧ w'.cell? ⟨x, 2, none⟩ = some (.slice (some ⟨A, 0, none⟩) n' 17) ∧ w'.cell? ⟨x, 3, none⟩ = some (.slice (some ⟨S, 0, none⟩) n' 17) ∧ w'.cell? ⟨SP, 0, none⟩ = some (.int .i64 (slots j)) ∧ w'.cell? ⟨SP, 1, none⟩ = some (.int .i64 (slots j)) ∧ w'.cell? ⟨SP, 2, none⟩ = some (.int .i64 (slots j)) ∧ w'.cell? ⟨SP, 3, none⟩ = some (.float .f64 INF)) w5.drew := HSK.out _ ((Chg.refl _ w5).drew)
        have hS1 : (fun w' : World => w'.cell? ⟨B, 0, none⟩ = some (.pointer (some ⟨x, 0, none⟩))) w5.drew := hSS.1
        refine wpAnyT_take1 (i := 1) (v := ?_) (by kernel_rfl) rfl (fun _ _ _ h => h) (Or.inl ⟨by rfl, ?_⟩) (by assumption) ?_
        rotate_left
        · (intro w hSw; (try dsimp only at hSw); go_simp; try (with_reducible rfl))
        simp only [Act.put, List.setIfInBounds_toArray, List.set_cons_zero, List.set_cons_succ]
        refine wpAnyT_take (i := 0) (v := ?_) (by kernel_rfl) rfl (fun _ _ _ h => h) (Or.inl ⟨by rfl, ?_⟩) (by assumption) (by assumption) ?_
        rotate_left
        · (intro w hSw; (try dsimp only at hSw); go_simp; try (with_reducible rfl))
        simp only [Act.put, List.setIfInBounds_toArray, List.set_cons_zero, List.set_cons_succ]
        refine wpAnyT_take (i := 2) (v := ?_) (by kernel_rfl) rfl (fun _ _ _ h => h) (Or.inl ⟨by rfl, ?_⟩) (by assumption) (by assumption) ?_
        rotate_left
        · (intro w hSw; (try dsimp only at hSw); go_simp; try (with_reducible rfl))
        simp only [Act.put, List.setIfInBounds_toArray, List.set_cons_zero, List.set_cons_succ]
        refine wpAnyT_take (i := 3) (v := ?_) (by kernel_rfl) rfl (fun _ _ _ h => h) (Or.inl ⟨by rfl, ?_⟩) (by assumption) (by assumption) ?_
        rotate_left
        · (intro w hSw; (try dsimp only at hSw); go_simp; try (with_reducible rfl))
        simp only [Act.put, List.setIfInBounds_toArray, List.set_cons_zero, List.set_cons_succ]
        refine wpAnyT_take (i := 4) (v := ?_) (by kernel_rfl) rfl (fun _ _ _ h => h) (Or.inl ⟨by rfl, ?_⟩) (by assumption) (by assumption) ?_
        rotate_left
        · (intro w hSw; (try dsimp only at hSw); go_simp; try (with_reducible rfl))
        simp only [Act.put, List.setIfInBounds_toArray, List.set_cons_zero, List.set_cons_succ]
        refine wpAnyT_take (i := 5) (v := ?_) (by kernel_rfl) rfl (fun _ _ _ h => h) (Or.inl ⟨by rfl, ?_⟩) (by assumption) (by assumption) ?_
        rotate_left
        · (intro w hSw; (try dsimp only at hSw); go_simp; try (with_reducible rfl))
        simp only [Act.put, List.setIfInBounds_toArray, List.set_cons_zero, List.set_cons_succ]
        refine wpAnyT_take (i := 6) (v := ?_) (by kernel_rfl) rfl (fun _ _ _ h => h) (Or.inl ⟨by rfl, ?_⟩) (by assumption) (by assumption) ?_
        rotate_left
        · (intro w hSw; (try dsimp only at hSw); go_simp; try (with_reducible rfl))
        simp only [Act.put, List.setIfInBounds_toArray, List.set_cons_zero, List.set_cons_succ]
        refine wpAnyT_take (i := 7) (v := ?_) (by kernel_rfl) rfl (fun _ _ _ h => h) (Or.inl ⟨by rfl, ?_⟩) (by assumption) (by assumption) ?_
        rotate_left
        · (intro w hSw; (try dsimp only at hSw); go_simp; try (with_reducible rfl))
        simp only [Act.put, List.setIfInBounds_toArray, List.set_cons_zero, List.set_cons_succ]
        refine wpAnyT_take (i := 10) (v := ?_) (by kernel_rfl) rfl (fun _ _ _ h => h) (Or.inl ⟨by rfl, ?_⟩) (by assumption) (by assumption) ?_
        rotate_left
        · (intro w hSw; (try dsimp only at hSw); go_simp; try (with_reducible rfl))
        simp only [Act.put, List.setIfInBounds_toArray, List.set_cons_zero, List.set_cons_succ]
        refine wpAnyT_take (i := 11) (v := ?_) (by kernel_rfl) rfl (fun _ _ _ h => h) (Or.inl ⟨by rfl, ?_⟩) (by assumption) (by assumption) ?_
        rotate_left
        · (intro w hSw; (try dsimp only at hSw); go_simp; try (with_reducible rfl))
        simp only [Act.put, List.setIfInBounds_toArray, List.set_cons_zero, List.set_cons_succ]
        refine wpAnyT_take (i := 12) (v := ?_) (by kernel_rfl) rfl (fun _ _ _ h => h) (Or.inl ⟨by rfl, ?_⟩) (by assumption) (by assumption) ?_
        rotate_left
        · (intro w hSw; (try dsimp only at hSw); go_simp; try (with_reducible rfl))
        simp only [Act.put, List.setIfInBounds_toArray, List.set_cons_zero, List.set_cons_succ]
        refine wpAnyT_take (i := 13) (v := ?_) (by kernel_rfl) rfl (fun _ _ _ h => h) (Or.inl ⟨by rfl, ?_⟩) (by assumption) (by assumption) ?_
        rotate_left
        · (intro w hSw; (try dsimp only at hSw); go_simp; try (with_reducible rfl))
        simp only [Act.put, List.setIfInBounds_toArray, List.set_cons_zero, List.set_cons_succ]
        refine wpAnyT_take (i := 14) (v := ?_) (by kernel_rfl) rfl (fun _ _ _ h => h) (Or.inl ⟨by rfl, ?_⟩) (by assumption) (by assumption) ?_
        rotate_left
        · (intro w hSw; (try dsimp only at hSw); go_simp; try (with_reducible rfl))
        simp only [Act.put, List.setIfInBounds_toArray, List.set_cons_zero, List.set_cons_succ]
        refine wpAnyT_take (i := 15) (v := ?_) (by kernel_rfl) rfl (fun _ _ _ h => h) (Or.inl ⟨by rfl, ?_⟩) (by assumption) (by assumption) ?_
        rotate_left
        · (intro w hSw; (try dsimp only at hSw); go_simp; try (with_reducible rfl))
        simp only [Act.put, List.setIfInBounds_toArray, List.set_cons_zero, List.set_cons_succ]
        refine wpAnyT_two (i := 8) (k := 16) (by kernel_rfl) rfl rfl (by rfl) (by rfl) (fun K hK => ?_) (fun K hK => ?_)
        · go_simp
          refine hK.out _ _ ⟨⟨fun _ => HSK.out _ (((Chg.refl _ w5).alloc _).drew), (HSK.out _ (((Chg.refl _ w5).alloc _).drew)).1⟩, ?_⟩
          try simp only [Act.put, List.setIfInBounds_toArray, List.set_cons_zero, List.set_cons_succ]
          clear hK K
          refine wpAnyT_two (i := 9) (k := 16) (by kernel_rfl) rfl rfl (by rfl) (by rfl) (fun K hK => ?_) (fun K hK => ?_)
          · go_simp
            go_at_call 38
            refine (H38.out _ _ (((Chg.refl _ w5).alloc _).drew) (HJA.out.next (((Chg.refl S0 w5).alloc _).drew) (fun _ e => e)) ((Arr.one1 w5 23 (ptr j) rfl).next ((Chg.refl S0 _).drew) (fun _ e => e)) (by omega)).mono ?_
            rintro e w38 ⟨rfl, a38, c38, d38⟩
            have HA38 : Hid (Arr w38 A 23 1 (n' + 1) 17 (insL (J.map ptr) [ptr j] i)) := a38
            have HX38 : Hid (Arr w38 S 134 4 n' 17 xs) := (HXA.out.next (((Chg.refl S0 w5).alloc (.cells #[.pointer (some ⟨j, 0, none⟩)] 23)).drew) (fun _ e => e)).next c38 (fun _ e => hAS e.symm)
            have HD38 : Hid (Chg (fun y _ => y = A ∨ y = S) w5 w38) := d38
            clear a38 c38 d38
            refine hK.out _ _ ⟨⟨fun _ => HSK.out _ HD38.out, (HSK.out _ HD38.out).1⟩, ?_⟩
            try simp only [Act.put, List.setIfInBounds_toArray, List.set_cons_zero, List.set_cons_succ]
            clear hK K
            refine wpAnyT_one (i := 16) (by kernel_rfl) rfl (by rfl) (fun K hK => ?_)
            go_simp
            refine hK.out _ _ ⟨⟨fun _ => HSK.out _ (HD38.out.alloc _), (HSK.out _ (HD38.out.alloc _)).1⟩, ?_⟩
            try simp only [Act.put, List.setIfInBounds_toArray, List.set_cons_zero, List.set_cons_succ]
            clear hK K
            refine wpAnyT_one (i := 17) (by kernel_rfl) rfl (by rfl) (fun K hK => ?_)
            go_simp
            go_at_call 39
            refine (H39.out _ _ (HD38.out.alloc _) (HX38.out.next ((Chg.refl S0 w38).alloc _) (fun _ e => e)) (Arr.oneK w38 134 4 #[.int .i64 (slots j), .int .i64 (slots j), .int .i64 (slots j), .float .f64 INF] rfl (by simp [Value.oneCell'])) (by have := HX38.out.lt; omega)).mono ?_
            rintro e w39 ⟨rfl, c39, d39, ys39⟩
            have a39 := (HA38.out.next ((Chg.refl S0 w38).alloc (.cells #[.int .i64 (slots j), .int .i64 (slots j), .int .i64 (slots j), .float .f64 INF] 134)) (fun _ e => e)).next c39 (fun _ e => hAS e)
            clear hSS hS1
            obtain ⟨z0, z2, z3, _⟩ := HSK.out w39 d39
            have k2 := HFX.out w39 2 d39
            have k3 := HFX.out w39 3 d39
            have hS1 : (fun w' : World => w'.cell? ⟨B, 0, none⟩ = some (.pointer (some ⟨x, 0, none⟩))) w39 := z0
            refine hK.out _ _ ⟨⟨fun _ => HSK.out _ d39, z0⟩, ?_⟩
            try simp only [Act.put, List.setIfInBounds_toArray, List.set_cons_zero, List.set_cons_succ]
            clear hK K
            refine wpAnyT_take1 (i := 18) (v := ?_) (by kernel_rfl) rfl (fun _ _ _ h => h) (Or.inl ⟨by rfl, ?_⟩) (by assumption) ?_
            rotate_left
            · (intro w hSw; (try dsimp only at hSw); go_simp; try (with_reducible rfl))
            simp only [Act.put, List.setIfInBounds_toArray, List.set_cons_zero, List.set_cons_succ]
            refine wpAnyT_take1 (i := 19) (v := ?_) (by kernel_rfl) rfl (fun _ _ _ h => h) (Or.inl ⟨by rfl, ?_⟩) (by assumption) ?_
            rotate_left
            · (intro w hSw; (try dsimp only at hSw); go_simp; try (with_reducible rfl))
            simp only [Act.put, List.setIfInBounds_toArray, List.set_cons_zero, List.set_cons_succ]
            refine wpAnyT_one (i := 20) (by kernel_rfl) rfl (by rfl) (fun K hK => ?_)
            go_simp
            have z0' : (fun w' : World => w'.cell? ⟨B, 0, none⟩ = some (.pointer (some ⟨x, 0, none⟩))) (w39.setCell ⟨x, 2, none⟩ (.slice (some ⟨A, 0, none⟩) (n' + 1) 17)) := (World.cell?_setCell_other _ _ _ _ (by intro e; cases e)).trans z0
            have z3' : (w39.setCell ⟨x, 2, none⟩ (.slice (some ⟨A, 0, none⟩) (n' + 1) 17)).cell? ⟨x, 3, none⟩ = some (.slice (some ⟨S, 0, none⟩) n' 17) := (cell_ne _ _ _ _ _ (by omega)).trans z3
            have k3' : (w39.setCell ⟨x, 2, none⟩ (.slice (some ⟨A, 0, none⟩) (n' + 1) 17)).frozen? ⟨x, 3, none⟩ = false := (World.frozen?_setCell _ _ _ _).trans k3
            refine hK.out _ _ ⟨⟨fun h => (by cases h), z0'⟩, ?_⟩
            try simp only [Act.put, List.setIfInBounds_toArray, List.set_cons_zero, List.set_cons_succ]
            clear hK K
            refine wpAnyT_take1 (i := 21) (v := ?_) (by kernel_rfl) rfl (fun _ _ _ h => h) (Or.inl ⟨by rfl, ?_⟩) (by assumption) ?_
            rotate_left
            · (intro w hSw; (try dsimp only at hSw); go_simp; try (with_reducible rfl))
            simp only [Act.put, List.setIfInBounds_toArray, List.set_cons_zero, List.set_cons_succ]
            refine wpAnyT_take1 (i := 22) (v := ?_) (by kernel_rfl) rfl (fun _ _ _ h => h) (Or.inl ⟨by rfl, ?_⟩) (by assumption) ?_
            rotate_left
            · (intro w hSw; (try dsimp only at hSw); go_simp; try (with_reducible rfl))
            simp only [Act.put, List.setIfInBounds_toArray, List.set_cons_zero, List.set_cons_succ]
            refine wpAnyT_one (i := 23) (by kernel_rfl) rfl (by rfl) (fun K hK => ?_)
            go_simp
            refine hK.out _ _ ⟨⟨fun h => (by cases h), (World.cell?_setCell_other _ _ _ _ (by intro e; cases e)).trans z0'⟩, wpAnyT_done (by kernel_rfl) ?_ _⟩
            try simp only [Act.put, List.setIfInBounds_toArray, List.set_cons_zero, List.set_cons_succ]
            clear hK K
            go_wp2
            go_meet
            case rel => exact HFIN.out w39 d39 a39 ys39
          · go_simp
            refine hK.out _ _ ⟨⟨fun _ => HSK.out _ ((((Chg.refl _ w5).alloc _).alloc _).drew), (HSK.out _ ((((Chg.refl _ w5).alloc _).alloc _).drew)).1⟩, ?_⟩
            try simp only [Act.put, List.setIfInBounds_toArray, List.set_cons_zero, List.set_cons_succ]
            clear hK K
            refine wpAnyT_one (i := 9) (by kernel_rfl) rfl (by rfl) (fun K hK => ?_)
            go_simp
            go_at_call 38
            refine (H38.out _ _ ((((Chg.refl _ w5).alloc _).alloc _).drew) (HJA.out.next ((((Chg.refl S0 w5).alloc _).alloc _).drew) (fun _ e => e)) (((Arr.one1 w5 23 (ptr j) rfl).next ((Chg.refl S0 _).alloc _) (fun _ e => e)).next ((Chg.refl S0 _).drew) (fun _ e => e)) (by omega)).mono ?_
            rintro e w38 ⟨rfl, a38, c38, d38⟩
            have HA38 : Hid (Arr w38 A 23 1 (n' + 1) 17 (insL (J.map ptr) [ptr j] i)) := a38
            have HX38 : Hid (Arr w38 S 134 4 n' 17 xs) := (HXA.out.next ((((Chg.refl S0 w5).alloc (.cells #[.pointer (some ⟨j, 0, none⟩)] 23)).alloc (.cells #[.int .i64 (slots j), .int .i64 (slots j), .int .i64 (slots j), .float .f64 INF] 134)).drew) (fun _ e => e)).next c38 (fun _ e => hAS e.symm)
            have HV38 : Hid (Arr w38 (w5.heap.size + 1) 134 4 1 1 [.int .i64 (slots j), .int .i64 (slots j), .int .i64 (slots j), .float .f64 INF]) := by
              have h1 := Arr.oneK (w5.alloc (.cells #[.pointer (some ⟨j, 0, none⟩)] 23)) 134 4 #[.int .i64 (slots j), .int .i64 (slots j), .int .i64 (slots j), .float .f64 INF] rfl (by simp [Value.oneCell'])
              rw [World.size_alloc] at h1
              exact (h1.next ((Chg.refl S0 _).drew) (fun _ e => e)).next c38 (fun _ e => by omega)
            have HD38 : Hid (Chg (fun y _ => y = A ∨ y = S) w5 w38) := d38
            clear a38 c38 d38
            refine hK.out _ _ ⟨⟨fun _ => HSK.out _ HD38.out, (HSK.out _ HD38.out).1⟩, ?_⟩
            try simp only [Act.put, List.setIfInBounds_toArray, List.set_cons_zero, List.set_cons_succ]
            clear hK K
            refine wpAnyT_one (i := 17) (by kernel_rfl) rfl (by rfl) (fun K hK => ?_)
            go_simp
            go_at_call 39
            refine (H39.out _ _ HD38.out HX38.out HV38.out (by omega)).mono ?_
            rintro e w39 ⟨rfl, c39, d39, ys39⟩
            have a39 := HA38.out.next c39 (fun _ e => hAS e)
            clear hSS hS1
            obtain ⟨z0, z2, z3, _⟩ := HSK.out w39 d39
            have k2 := HFX.out w39 2 d39
            have k3 := HFX.out w39 3 d39
            have hS1 : (fun w' : World => w'.cell? ⟨B, 0, none⟩ = some (.pointer (some ⟨x, 0, none⟩))) w39 := z0
            refine hK.out _ _ ⟨⟨fun _ => HSK.out _ d39, z0⟩, ?_⟩
            try simp only [Act.put, List.setIfInBounds_toArray, List.set_cons_zero, List.set_cons_succ]
            clear hK K
            refine wpAnyT_take1 (i := 18) (v := ?_) (by kernel_rfl) rfl (fun _ _ _ h => h) (Or.inl ⟨by rfl, ?_⟩) (by assumption) ?_
            rotate_left
            · (intro w hSw; (try dsimp only at hSw); go_simp; try (with_reducible rfl))
            simp only [Act.put, List.setIfInBounds_toArray, List.set_cons_zero, List.set_cons_succ]
            refine wpAnyT_take1 (i := 19) (v := ?_) (by kernel_rfl) rfl (fun _ _ _ h => h) (Or.inl ⟨by rfl, ?_⟩) (by assumption) ?_
            rotate_left
            · (intro w hSw; (try dsimp only at hSw); go_simp; try (with_reducible rfl))
            simp only [Act.put, List.setIfInBounds_toArray, List.set_cons_zero, List.set_cons_succ]
            refine wpAnyT_one (i := 20) (by kernel_rfl) rfl (by rfl) (fun K hK => ?_)
            go_simp
            have z0' : (fun w' : World => w'.cell? ⟨B, 0, none⟩ = some (.pointer (some ⟨x, 0, none⟩))) (w39.setCell ⟨x, 2, none⟩ (.slice (some ⟨A, 0, none⟩) (n' + 1) 17)) := (World.cell?_setCell_other _ _ _ _ (by intro e; cases e)).trans z0
            have z3' : (w39.setCell ⟨x, 2, none⟩ (.slice (some ⟨A, 0, none⟩) (n' + 1) 17)).cell? ⟨x, 3, none⟩ = some (.slice (some ⟨S, 0, none⟩) n' 17) := (cell_ne _ _ _ _ _ (by omega)).trans z3
            have k3' : (w39.setCell ⟨x, 2, none⟩ (.slice (some ⟨A, 0, none⟩) (n' + 1) 17)).frozen? ⟨x, 3, none⟩ = false := (World.frozen?_setCell _ _ _ _).trans k3
            refine hK.out _ _ ⟨⟨fun h => (by cases h), z0'⟩, ?_⟩
            try simp only [Act.put, List.setIfInBounds_toArray, List.set_cons_zero, List.set_cons_succ]
            clear hK K
            refine wpAnyT_take1 (i := 21) (v := ?_) (by kernel_rfl) rfl (fun _ _ _ h => h) (Or.inl ⟨by rfl, ?_⟩) (by assumption) ?_
            rotate_left
            · (intro w hSw; (try dsimp only at hSw); go_simp; try (with_reducible rfl))
            simp only [Act.put, List.setIfInBounds_toArray, List.set_cons_zero, List.set_cons_succ]
            refine wpAnyT_take1 (i := 22) (v := ?_) (by kernel_rfl) rfl (fun _ _ _ h => h) (Or.inl ⟨by rfl, ?_⟩) (by assumption) ?_
            rotate_left
            · (intro w hSw; (try dsimp only at hSw); go_simp; try (with_reducible rfl))
            simp only [Act.put, List.setIfInBounds_toArray, List.set_cons_zero, List.set_cons_succ]
            refine wpAnyT_one (i := 23) (by kernel_rfl) rfl (by rfl) (fun K hK => ?_)
            go_simp
            refine hK.out _ _ ⟨⟨fun h => (by cases h), (World.cell?_setCell_other _ _ _ _ (by intro e; cases e)).trans z0'⟩, wpAnyT_done (by kernel_rfl) ?_ _⟩
            try simp only [Act.put, List.setIfInBounds_toArray, List.set_cons_zero, List.set_cons_succ]
            clear hK K
            go_wp2
            go_meet
            case rel => exact HFIN.out w39 d39 a39 ys39
        · go_simp
          refine hK.out _ _ ⟨⟨fun _ => HSK.out _ (((Chg.refl _ w5).alloc _).drew), (HSK.out _ (((Chg.refl _ w5).alloc _).drew)).1⟩, ?_⟩
          try simp only [Act.put, List.setIfInBounds_toArray, List.set_cons_zero, List.set_cons_succ]
          clear hK K
          refine wpAnyT_one (i := 8) (by kernel_rfl) rfl (by rfl) (fun K hK => ?_)
          go_simp
          refine hK.out _ _ ⟨⟨fun _ => HSK.out _ ((((Chg.refl _ w5).alloc _).alloc _).drew), (HSK.out _ ((((Chg.refl _ w5).alloc _).alloc _).drew)).1⟩, ?_⟩
          try simp only [Act.put, List.setIfInBounds_toArray, List.set_cons_zero, List.set_cons_succ]
          clear hK K
          refine wpAnyT_one (i := 9) (by kernel_rfl) rfl (by rfl) (fun K hK => ?_)
          go_simp
          go_at_call 38
          have hv1 := Arr.one1 (w5.alloc (.cells #[.int .i64 (slots j), .int .i64 (slots j), .int .i64 (slots j), .float .f64 INF] 134)) 23 (ptr j) rfl
          rw [World.size_alloc] at hv1
          refine (H38.out _ _ ((((Chg.refl _ w5).alloc _).alloc _).drew) (HJA.out.next ((((Chg.refl S0 w5).alloc _).alloc _).drew) (fun _ e => e)) (hv1.next ((Chg.refl S0 _).drew) (fun _ e => e)) (by omega)).mono ?_
          rintro e w38 ⟨rfl, a38, c38, d38⟩
          have HA38 : Hid (Arr w38 A 23 1 (n' + 1) 17 (insL (J.map ptr) [ptr j] i)) := a38
          have HX38 : Hid (Arr w38 S 134 4 n' 17 xs) := (HXA.out.next ((((Chg.refl S0 w5).alloc (.cells #[.int .i64 (slots j), .int .i64 (slots j), .int .i64 (slots j), .float .f64 INF] 134)).alloc (.cells #[.pointer (some ⟨j, 0, none⟩)] 23)).drew) (fun _ e => e)).next c38 (fun _ e => hAS e.symm)
          have HV38 : Hid (Arr w38 w5.heap.size 134 4 1 1 [.int .i64 (slots j), .int .i64 (slots j), .int .i64 (slots j), .float .f64 INF]) := (((Arr.oneK w5 134 4 #[.int .i64 (slots j), .int .i64 (slots j), .int .i64 (slots j), .float .f64 INF] rfl (by simp [Value.oneCell'])).next ((Chg.refl S0 _).alloc (.cells #[.pointer (some ⟨j, 0, none⟩)] 23)) (fun _ e => e)).next ((Chg.refl S0 _).drew) (fun _ e => e)).next c38 (fun _ e => by omega)
          have HD38 : Hid (Chg (fun y _ => y = A ∨ y = S) w5 w38) := d38
          clear a38 c38 d38 hv1
          refine hK.out _ _ ⟨⟨fun _ => HSK.out _ HD38.out, (HSK.out _ HD38.out).1⟩, ?_⟩
          try simp only [Act.put, List.setIfInBounds_toArray, List.set_cons_zero, List.set_cons_succ]
          clear hK K
          refine wpAnyT_one (i := 17) (by kernel_rfl) rfl (by rfl) (fun K hK => ?_)
          go_simp
          go_at_call 39
          refine (H39.out _ _ HD38.out HX38.out HV38.out (by omega)).mono ?_
          rintro e w39 ⟨rfl, c39, d39, ys39⟩
          have a39 := HA38.out.next c39 (fun _ e => hAS e)
          clear hSS hS1
          obtain ⟨z0, z2, z3, _⟩ := HSK.out w39 d39
          have k2 := HFX.out w39 2 d39
          have k3 := HFX.out w39 3 d39
          have hS1 : (fun w' : World => w'.cell? ⟨B, 0, none⟩ = some (.pointer (some ⟨x, 0, none⟩))) w39 := z0
          refine hK.out _ _ ⟨⟨fun _ => HSK.out _ d39, z0⟩, ?_⟩
          try simp only [Act.put, List.setIfInBounds_toArray, List.set_cons_zero, List.set_cons_succ]
          clear hK K
          refine wpAnyT_take1 (i := 18) (v := ?_) (by kernel_rfl) rfl (fun _ _ _ h => h) (Or.inl ⟨by rfl, ?_⟩) (by assumption) ?_
          rotate_left
          · (intro w hSw; (try dsimp only at hSw); go_simp; try (with_reducible rfl))
          simp only [Act.put, List.setIfInBounds_toArray, List.set_cons_zero, List.set_cons_succ]
          refine wpAnyT_take1 (i := 19) (v := ?_) (by kernel_rfl) rfl (fun _ _ _ h => h) (Or.inl ⟨by rfl, ?_⟩) (by assumption) ?_
          rotate_left
          · (intro w hSw; (try dsimp only at hSw); go_simp; try (with_reducible rfl))
          simp only [Act.put, List.setIfInBounds_toArray, List.set_cons_zero, List.set_cons_succ]
          refine wpAnyT_one (i := 20) (by kernel_rfl) rfl (by rfl) (fun K hK => ?_)
          go_simp
          have z0' : (fun w' : World => w'.cell? ⟨B, 0, none⟩ = some (.pointer (some ⟨x, 0, none⟩))) (w39.setCell ⟨x, 2, none⟩ (.slice (some ⟨A, 0, none⟩) (n' + 1) 17)) := (World.cell?_setCell_other _ _ _ _ (by intro e; cases e)).trans z0
          have z3' : (w39.setCell ⟨x, 2, none⟩ (.slice (some ⟨A, 0, none⟩) (n' + 1) 17)).cell? ⟨x, 3, none⟩ = some (.slice (some ⟨S, 0, none⟩) n' 17) := (cell_ne _ _ _ _ _ (by omega)).trans z3
          have k3' : (w39.setCell ⟨x, 2, none⟩ (.slice (some ⟨A, 0, none⟩) (n' + 1) 17)).frozen? ⟨x, 3, none⟩ = false := (World.frozen?_setCell _ _ _ _).trans k3
          refine hK.out _ _ ⟨⟨fun h => (by cases h), z0'⟩, ?_⟩
          try simp only [Act.put, List.setIfInBounds_toArray, List.set_cons_zero, List.set_cons_succ]
          clear hK K
          refine wpAnyT_take1 (i := 21) (v := ?_) (by kernel_rfl) rfl (fun _ _ _ h => h) (Or.inl ⟨by rfl, ?_⟩) (by assumption) ?_
          rotate_left
          · (intro w hSw; (try dsimp only at hSw); go_simp; try (with_reducible rfl))
          simp only [Act.put, List.setIfInBounds_toArray, List.set_cons_zero, List.set_cons_succ]
          refine wpAnyT_take1 (i := 22) (v := ?_) (by kernel_rfl) rfl (fun _ _ _ h => h) (Or.inl ⟨by rfl, ?_⟩) (by assumption) ?_
          rotate_left
          · (intro w hSw; (try dsimp only at hSw); go_simp; try (with_reducible rfl))
          simp only [Act.put, List.setIfInBounds_toArray, List.set_cons_zero, List.set_cons_succ]
          refine wpAnyT_one (i := 23) (by kernel_rfl) rfl (by rfl) (fun K hK => ?_)
          go_simp
          refine hK.out _ _ ⟨⟨fun h => (by cases h), (World.cell?_setCell_other _ _ _ _ (by intro e; cases e)).trans z0'⟩, wpAnyT_done (by kernel_rfl) ?_ _⟩
          try simp only [Act.put, List.setIfInBounds_toArray, List.set_cons_zero, List.set_cons_succ]
          clear hK K
          go_wp2
          go_meet
          case rel => exact HFIN.out w39 d39 a39 ys39
      case rest =>
        rename World => w6
        obtain ⟨hc6, u2, u3, ua6, us6⟩ := hcut
        have HC6 : Hid (Chg (fun y t => y = A ∨ y = S ∨ (y = x ∧ (t = 2 ∨ t = 3))) w5 w6) := hc6
        have HU6 : Hid (w6.cell? ⟨x, 2, none⟩ = some (.slice (some ⟨A, 0, none⟩) (n' + 1) 17) ∧ w6.cell? ⟨x, 3, none⟩ = some (.slice (some ⟨S, 0, none⟩) (n' + 1) 17) ∧ Arr w6 A 23 1 (n' + 1) 17 (insL (J.map ptr) [ptr j] i) ∧ ∃ ys, Arr w6 S 134 4 (n' + 1) 17 ys ∧ SpL (n' + 1) ys) := ⟨u2, u3, ua6, us6⟩
        have HW6 : Hid (Chg (fun y t => (y = qb ∧ (t = qo + 4 ∨ t = qo + 6)) ∨ y = A ∨ y = S ∨ (y = x ∧ (t = 2 ∨ t = 3))) w w6) :=
          (((HCB.out.mono (fun y t _ e => Or.inl e)).trans HC4.out (fun y t hy e => by have : y = B := e; omega)).trans HC5.out (fun y t _ e => False.elim e)).trans HC6.out (fun y t _ e => Or.inr e)
        have hjx : j ≠ A ∧ j ≠ S ∧ j ≠ x := by
          obtain ⟨r1, r2, r3⟩ := HOX.out
          have := HRQ.out.2.1
          exact ⟨(fun e => by rw [e, r2] at this; cases this), (fun e => by rw [e, r3] at this; cases this), (fun e => by rw [e, r1] at this; cases this)⟩
        have hqx : qb ≠ A ∧ qb ≠ S ∧ qb ≠ x := by
          obtain ⟨r1, r2, r3⟩ := HOX.out
          have := HRQ.out.1
          exact ⟨(fun e => by rw [e, r2] at this; cases this), (fun e => by rw [e, r3] at this; cases this), (fun e => by rw [e, r1] at this; cases this)⟩
        have q61 : w6.cell? ⟨qb, qo + 1, none⟩ = some (.int .i64 sl) := HW6.out.keep HQ.out.c1 (fun e => by rcases e with e | e | e | e; have := e.2; omega; exact hqx.1 e; exact hqx.2.1 e; exact hqx.2.2 e.1)
        obtain ⟨vj, hvj⟩ := Option.isSome_iff_exists.1 (HW6.out.has j sl (HJ.out.lv sl hsl))
        have fj : w6.frozen? ⟨j, sl, none⟩ = false := (HW6.out.pln _ _ HJ.out.pl).free sl
        have b6 : w6.cell? ⟨B, 0, none⟩ = some (.pointer (some ⟨x, 0, none⟩)) := HC6.out.keep y0 (fun e => by rcases e with e | e | e; exact hBA.1 e; exact hBA.2.1 e; exact hBA.2.2.2.2.1 e.1)
        have hs6 : ∀ t v, w5.cell? ⟨SP, t, none⟩ = some v → w6.cell? ⟨SP, t, none⟩ = some v := fun t v hc => HC6.out.keep hc (fun e => by rcases e with e | e | e; exact hBA.2.2.1 e; exact hBA.2.2.2.1 e; exact hBA.2.2.2.2.2 e.1)
        have HS6 : Hid (∀ t v, w5.cell? ⟨SP, t, none⟩ = some v → w6.cell? ⟨SP, t, none⟩ = some v) := hs6
        have s1a : (0 : Int) ≤ (sl : Int) := by omega
        have s1b : (sl : Int) < 3 := by omega
        clear hc6 u2 u3 ua6 us6 y0 y2 y3 x1 x2 x3 hxb0 jB6 q0 hs6
        go_upto_region 18 with fail
        go_region
        all_goals (go_upto_region 19 with fail)
        obtain ⟨w7, hw7⟩ : ∃ w7, w7 = (w6.setCell ⟨j, sl, none⟩ (.pointer (some ⟨x, 0, none⟩))).drew := ⟨_, rfl⟩
        rw [← hw7]
        have HC7 : Hid (Chg (fun y t => y = j ∧ t = sl) w6 w7) := by show Chg _ _ _; rw [hw7]; exact ((Chg.refl _ w6).set j sl _ (fun _ => ⟨rfl, rfl⟩)).drew
        have HJ7 : Hid (w7.cell? ⟨j, sl, none⟩ = some (ptr x)) := by show _ = _; rw [hw7, cell_drew]; exact World.cell?_setCell_same _ _ _ hvj
        have HW7 : Hid (Chg (fun y t => ((y = qb ∧ (t = qo + 4 ∨ t = qo + 6)) ∨ (y = j ∧ t = sl)) ∨ y = A ∨ y = S ∨ (y = x ∧ (t = 2 ∨ t = 3))) w w7) :=
          (HW6.out.mono (fun y t _ e => by rcases e with e | e; exact Or.inl (Or.inl e); exact Or.inr e)).trans HC7.out (fun y t _ e => Or.inl (Or.inr e))
        have hjB : j ≠ B ∧ j ≠ SP := by omega
        have b7 : w7.cell? ⟨B, 0, none⟩ = some (.pointer (some ⟨x, 0, none⟩)) := HC7.out.keep b6 (fun e => hjB.1 e.1.symm)
        have HSP7 : Hid (w7.cell? ⟨SP, 0, none⟩ = some (.int .i64 (slots j)) ∧ w7.cell? ⟨SP, 1, none⟩ = some (.int .i64 (slots j)) ∧ w7.cell? ⟨SP, 2, none⟩ = some (.int .i64 (slots j)) ∧ w7.cell? ⟨SP, 3, none⟩ = some (.float .f64 INF)) := by
          obtain ⟨s0, s1, s2, s3⟩ := HSP5.out
          have k : ∀ t v, w5.cell? ⟨SP, t, none⟩ = some v → w7.cell? ⟨SP, t, none⟩ = some v := fun t v hc => HC7.out.keep (HS6.out t v hc) (fun e => hjB.2 e.1.symm)
          exact ⟨k _ _ s0, k _ _ s1, k _ _ s2, k _ _ s3⟩
        -- a node at w7
        have HND : Hid (∀ l y, l ≤ G.D → y ∈ G.L l → Plain w7 y 142 ∧ w7.cell? ⟨y, 0, none⟩ = some (upv (G.U y)) ∧ w7.cell? ⟨y, 4, none⟩ = some (ptr (G.F y)) ∧ Sp w7 y 5 ∧ I64 w7 y 9 ∧ y ≠ qb ∧ y ≠ j ∧ y ≠ B ∧ y ≠ SP) := fun l y hl hy => by
          have hN := HI.out.node l hl y hy
          obtain ⟨o1, _, _⟩ := HI.out.shape.own l hl y hy
          obtain ⟨r1, r2, r3⟩ := HOX.out
          obtain ⟨g1, g2, _⟩ := HRQ.out
          have yq : y ≠ qb := fun e => by rw [e, g1] at o1; cases o1
          have yj : y ≠ j := fun e => by rw [e, g2] at o1; cases o1
          have yA : y ≠ A := fun e => by rw [e, r2] at o1; injection o1 with e2; injection e2 with e3 e4; cases e4
          have yS : y ≠ S := fun e => by rw [e, r3] at o1; injection o1 with e2; injection e2 with e3 e4; cases e4
          have nX : ∀ t, t ≠ 2 → t ≠ 3 → ¬ (((y = qb ∧ (t = qo + 4 ∨ t = qo + 6)) ∨ (y = j ∧ t = sl)) ∨ y = A ∨ y = S ∨ (y = x ∧ (t = 2 ∨ t = 3))) := fun t h2 h3 e => by
            rcases e with (e | e) | e | e | e
            · exact yq e.1
            · exact yj e.1
            · exact yA e
            · exact yS e
            · rcases e.2 with e | e
              · exact h2 e
              · exact h3 e
          have hlt := hN.pl.lt
          refine ⟨HW7.out.pln _ _ hN.pl, HW7.out.keep hN.c0 (nX _ (by omega) (by omega)), HW7.out.keep hN.c4 (nX _ (by omega) (by omega)), HW7.out.sp hN.sp (fun t h1 _ => nX t (by omega) (by omega)), ?_, yq, yj, by omega, by omega⟩
          obtain ⟨v, hv⟩ := hN.c9
          exact ⟨v, HW7.out.keep hv (nX _ (by omega) (by omega))⟩
        have j8 : w7.cell? ⟨j, 8, none⟩ = some (.int .i64 (slots j)) := HW7.out.keep HJ.out.c8 (fun e => by rcases e with (e | e) | e | e | e; exact hjq e.1; have := e.2; omega; exact hjx.1 e; exact hjx.2.1 e; exact hjx.2.2 e.1)
        have q72 : w7.cell? ⟨qb, qo + 2, none⟩ = some (.bool false) := HW7.out.keep HQ.out.c2 (fun e => by rcases e with (e | e) | e | e | e; have := e.2; omega; exact hjq e.1.symm; exact hqx.1 e; exact hqx.2.1 e; exact hqx.2.2 e.1)
        clear hw7 hvj fj q61 b6 s1a s1b
        go_wp2
        go_loopw [9] (fun v wr => ∃ l, l ≤ G.D + 1 ∧ v = upv (anc G l x) ∧ Chg (fun y t => (∃ s, s < l ∧ anc G s x = some y) ∧ 4 ≤ t ∧ t ≤ 9) w7 wr ∧ ∀ s y, s < l → anc G s x = some y → wr.cell? ⟨y, 4, none⟩ = some (ptr (if i = 0 then j else G.F y)) ∧ Sp wr y 5 ∧ I64 wr y 9) (fun v _ => upMeas G v)
        case atStart => exact ⟨0, by omega, rfl, Chg.refl _ _, fun s y hs => by omega⟩
        case round =>
          rename World => w8
          obtain ⟨l, hl, hv, hC8, hd8⟩ := hrel
          have hxL := HPOS.out.mem
          by_cases hlD : l ≤ G.D
          · obtain ⟨y, hy, hyL⟩ := HI.out.shape.anc_mem x hxL l hlD
            rw [hy] at hv
            obtain rfl : _ = Value.pointer (some ⟨y, 0, none⟩) := hv
            have nv : ∀ z, (∃ s, s < l ∧ anc G s x = some z) → z ≠ y ∧ z ≠ SP ∧ z ≠ j ∧ z ≠ qb ∧ z ≠ B := fun z ⟨s, hs, hz⟩ => by
              obtain ⟨z', hz', hzL⟩ := HI.out.shape.anc_mem x hxL s (by omega)
              rw [hz] at hz'
              obtain rfl := Option.some.inj hz'
              obtain ⟨_, _, _, _, _, zq, zj, zB, zSP⟩ := HND.out s z (by omega) hzL
              refine ⟨fun e => ?_, zSP, zj, zq, zB⟩
              subst e
              have := HI.out.shape.lev s l z (by omega) hlD hzL hyL
              omega
            obtain ⟨py, ny0, ny4, ⟨a1, a2, a3, p5, p6, p7, p8⟩, ⟨a9, p9⟩, yq, yj, yB, ySP⟩ := HND.out l y hlD hyL
            obtain ⟨up, hup⟩ := upv_ptr (G.U y)
            rw [hup] at ny0
            have kp : ∀ t v, w7.cell? ⟨y, t, none⟩ = some v → w8.cell? ⟨y, t, none⟩ = some v := fun t v hc => hC8.keep hc (fun e => (nv y e.1).1 rfl)
            have ks : ∀ t v, w7.cell? ⟨SP, t, none⟩ = some v → w8.cell? ⟨SP, t, none⟩ = some v := fun t v hc => hC8.keep hc (fun e => (nv SP e.1).2.1 rfl)
            obtain ⟨s0, s1, s2, s3⟩ := HSP7.out
            have m0 := kp _ _ ny0
            have m4 : w8.cell? ⟨y, 4, none⟩ = some (.pointer (some ⟨G.F y, 0, none⟩)) := kp _ _ ny4
            have HM : Hid (w8.cell? ⟨y, 5, none⟩ = some (.int .i64 a1) ∧ w8.cell? ⟨y, 6, none⟩ = some (.int .i64 a2) ∧ w8.cell? ⟨y, 7, none⟩ = some (.int .i64 a3) ∧ w8.cell? ⟨y, 8, none⟩ = some (.float .f64 INF) ∧ w8.cell? ⟨y, 9, none⟩ = some (.int .i64 a9) ∧ w8.cell? ⟨y, 0, none⟩ = some (.pointer up)) := ⟨kp _ _ p5, kp _ _ p6, kp _ _ p7, kp _ _ p8, kp _ _ p9, m0⟩
            have HMS : Hid (w8.cell? ⟨SP, 0, none⟩ = some (.int .i64 (slots j)) ∧ w8.cell? ⟨SP, 1, none⟩ = some (.int .i64 (slots j)) ∧ w8.cell? ⟨SP, 2, none⟩ = some (.int .i64 (slots j)) ∧ w8.cell? ⟨SP, 3, none⟩ = some (.float .f64 INF)) := ⟨ks _ _ s0, ks _ _ s1, ks _ _ s2, ks _ _ s3⟩
            have HJ8 : Hid (w8.cell? ⟨j, 8, none⟩ = some (.int .i64 (slots j)) ∧ w8.cell? ⟨qb, qo + 2, none⟩ = some (.bool false)) := ⟨hC8.keep j8 (fun e => (nv j e.1).2.2.1 rfl), hC8.keep q72 (fun e => (nv qb e.1).2.2.2.1 rfl)⟩
            have HPY : Hid (Plain w8 y 142) := hC8.pln _ _ py
            have f4 := HPY.out.free 4
            have HC8 : Hid (Chg (fun y t => (∃ s, s < l ∧ anc G s x = some y) ∧ 4 ≤ t ∧ t ≤ 9) w7 w8) := hC8
            have HD8 : Hid (∀ s y, s < l → anc G s x = some y → w8.cell? ⟨y, 4, none⟩ = some (ptr (if i = 0 then j else G.F y)) ∧ Sp w8 y 5 ∧ I64 w8 y 9) := hd8
            have HNV : Hid (∀ z, (∃ s, s < l ∧ anc G s x = some z) → z ≠ y ∧ z ≠ SP ∧ z ≠ j ∧ z ≠ qb ∧ z ≠ B) := nv
            have HY : Hid (anc G l x = some y ∧ y ∈ G.L l ∧ upv (G.U y) = .pointer up) := ⟨hy, hyL, hup⟩
            clear nv kp ks hC8 hd8 hy hyL hup ny0 ny4 p5 p6 p7 p8 p9 s0 s1 s2 s3 py m0 hxL
            go_upto_if 181 with fail
            go_cut [] from 180 to 185 (fun wx => wx.cell? ⟨y, 4, none⟩ = some (ptr (if i = 0 then j else G.F y)) ∧ Chg (fun z t => z = y ∧ t = 4) w8 wx)
            case first =>
              by_cases hi0 : i = 0
              · have hrel : (∀ (wx : World), wx = w8.setCell ⟨y, 4, none⟩ (.pointer (some ⟨j, 0, none⟩)) → wx.cell? ⟨y, 4, none⟩ = some (ptr (if i = 0 then j else G.F y)) ∧ Chg (fun z t => z = y ∧ t = 4) w8 wx) := fun wx e => by
                  rw [e]
                  exact ⟨by rw [if_pos hi0]; exact World.cell?_setCell_same _ _ _ m4, (Chg.refl _ w8).set y 4 _ (fun _ => ⟨rfl, rfl⟩)⟩
                have HREL : Hid (∀ (wx : World), wx = w8.setCell ⟨y, 4, none⟩ (.pointer (some ⟨j, 0, none⟩)) → wx.cell? ⟨y, 4, none⟩ = some (ptr (if i = 0 then j else G.F y)) ∧ Chg (fun z t => z = y ∧ t = 4) w8 wx) := hrel
                clear hrel
                go_wp2
                go_meet
                case rel => exact HREL.out _ rfl
              · have hrel : w8.cell? ⟨y, 4, none⟩ = some (ptr (if i = 0 then j else G.F y)) ∧ Chg (fun z t => z = y ∧ t = 4) w8 w8 := ⟨by rw [if_neg hi0]; exact m4, Chg.refl _ _⟩
                have HREL : Hid (w8.cell? ⟨y, 4, none⟩ = some (ptr (if i = 0 then j else G.F y)) ∧ Chg (fun z t => z = y ∧ t = 4) w8 w8) := hrel
                clear hrel
                go_wp2
                go_meet
                case rel => exact HREL.out
            case rest =>
              rename World => w9
              obtain ⟨k4, hC9⟩ := hcut
              have HC9 : Hid (Chg (fun z t => z = y ∧ t = 4) w8 w9) := hC9
              have HK4 : Hid (w9.cell? ⟨y, 4, none⟩ = some (ptr (if i = 0 then j else G.F y))) := k4
              obtain ⟨m5, m6, m7, m8, m9, m0⟩ := HM.out
              obtain ⟨s0, s1, s2, s3⟩ := HMS.out
              have n5 := hC9.keep m5 (fun e => by have := e.2; omega)
              have n6 := hC9.keep m6 (fun e => by have := e.2; omega)
              have n7 := hC9.keep m7 (fun e => by have := e.2; omega)
              have n8 := hC9.keep m8 (fun e => by have := e.2; omega)
              have s0 := hC9.keep s0 (fun e => ySP e.1.symm)
              have s1 := hC9.keep s1 (fun e => ySP e.1.symm)
              have s2 := hC9.keep s2 (fun e => ySP e.1.symm)
              have s3 := hC9.keep s3 (fun e => ySP e.1.symm)
              have hy9 : y < w9.heap.size := World.block_lt_of_cell? _ _ n5
              have HN9 : Hid (∀ t, w9.frozen? ⟨y, t, none⟩ = false) := fun t => (hC9.pln _ _ HPY.out).free t
              clear k4 hC9 m5 m6 m7 m8 m9 m0 m4 f4
              go_upto_region 24 with fail
              go_cut [] from 186 to 194 (fun wx => Sp wx y 5 ∧ Chg (fun z t => z = y ∧ 5 ≤ t ∧ t ≤ 8) w9 wx)
              case first =>
                go_region_with (go_at_call 40; refine (join40 a1 a2 a3 (slots j) (slots j) (slots j) w9.drew).mono ?_; rintro e w10 ⟨⟨j1, j2, j3, rfl⟩, hB10⟩; have HB10 : Hid (Below w9.drew.heap.size w9.drew w10) := hB10; have t5 := (hB10.cell (p := ⟨y, 5, none⟩) hy9).trans n5; have t6 := (hB10.cell (p := ⟨y, 6, none⟩) hy9).trans n6; have t7 := (hB10.cell (p := ⟨y, 7, none⟩) hy9).trans n7; have t8 := (hB10.cell (p := ⟨y, 8, none⟩) hy9).trans n8; have o5 := (World.frozen?_of_block (hB10.block y hy9)).trans (HN9.out 5); have o6 := (World.frozen?_of_block (hB10.block y hy9)).trans (HN9.out 6); have o7 := (World.frozen?_of_block (hB10.block y hy9)).trans (HN9.out 7); have o8 := (World.frozen?_of_block (hB10.block y hy9)).trans (HN9.out 8); clear hB10)
                all_goals (go_wp2; go_meet)
                all_goals (case rel =>
                  have hC10 : Chg (fun z t => z = y ∧ 5 ≤ t ∧ t ≤ 8) w9 w10 := ((Chg.refl _ w9).drew).below HB10.out
                  refine ⟨⟨j1, j2, j3, ?_, ?_, ?_, ?_⟩, ?_⟩
                  · simp [cell_ne, cell_eq, cell_drew, t5, t6, t7, t8]
                  · simp [cell_ne, cell_eq, cell_drew, t5, t6, t7, t8]
                  · simp [cell_ne, cell_eq, cell_drew, t5, t6, t7, t8]
                  · simp [cell_ne, cell_eq, cell_drew, t5, t6, t7, t8]
                  · with_reducible (repeat (first | exact hC10 | refine Chg.drew ?_ | refine Chg.set ?_ _ _ _ (fun _ => ⟨rfl, by omega, by omega⟩))))
              case rest =>
                rename World => w10
                obtain ⟨ksp, hC10⟩ := hcut
                have HC10 : Hid (Chg (fun z t => z = y ∧ 5 ≤ t ∧ t ≤ 8) w9 w10) := hC10
                have HKS : Hid (Sp w10 y 5) := ksp
                have r9 := hC10.keep (HC9.out.keep HM.out.2.2.2.2.1 (fun e => by have := e.2; omega)) (fun e => by have := e.2; omega)
                have rj := hC10.keep (HC9.out.keep HJ8.out.1 (fun e => yj e.1.symm)) (fun e => yj e.1.symm)
                have f9 : w10.frozen? ⟨y, 9, none⟩ = false := (hC10.pln _ _ (HC9.out.pln _ _ HPY.out)).free 9
                clear ksp hC10 n5 n6 n7 n8 s0 s1 s2 s3
                go_upto_region 25 with fail
                go_cut [] from 195 to 205 (fun wx => I64 wx y 9 ∧ Chg (fun z t => z = y ∧ t = 9) w10 wx)
                case first =>
                  go_region
                  all_goals (go_wp2; go_meet)
                  all_goals (case rel => exact ⟨⟨_, by rw [cell_drew]; exact World.cell?_setCell_same _ _ _ r9⟩, ((Chg.refl _ w10).set y 9 _ (fun _ => ⟨rfl, rfl⟩)).drew⟩)
                case rest =>
                  rename World => w11
                  obtain ⟨k9, hC11⟩ := hcut
                  have HC811 : Hid (Chg (fun z t => z = y ∧ 4 ≤ t ∧ t ≤ 9) w8 w11) := (((HC9.out.mono (fun z t _ e => ⟨e.1, by have := e.2; omega, by have := e.2; omega⟩)).trans HC10.out (fun z t _ e => ⟨e.1, by omega, by omega⟩)).trans hC11 (fun z t _ e => ⟨e.1, by have := e.2; omega, by have := e.2; omega⟩))
                  have HK9 : Hid (I64 w11 y 9) := k9
                  have HC11 : Hid (Chg (fun z t => z = y ∧ t = 9) w10 w11) := hC11
                  have t0 := HC811.out.keep HM.out.2.2.2.2.2 (fun e => by have := e.2; omega)
                  have tq := HC811.out.keep HJ8.out.2 (fun e => yq e.1.symm)
                  clear k9 hC11 r9 rj f9
                  go_wp2
                  go_roundw
                  case rel =>
                    obtain ⟨hy, hyL, hup⟩ := HY.out
                    have hanc : anc G (l + 1) x = G.U y := by show (anc G l x).bind G.U = _; rw [hy]; rfl
                    refine ⟨l + 1, by omega, by rw [hanc, hup], ?_, fun s z hs hz => ?_⟩
                    · exact (HC8.out.mono (fun z t _ e => by obtain ⟨⟨s, h1, h2⟩, h3⟩ := e; exact ⟨⟨s, by omega, h2⟩, h3⟩)).trans HC811.out (fun z t _ e => ⟨⟨l, by omega, by rw [e.1]; exact hy⟩, e.2⟩)
                    · by_cases hsl' : s < l
                      · obtain ⟨d1, d2, d3⟩ := HD8.out s z hsl' hz
                        have hzy := (HNV.out z ⟨s, hsl', hz⟩).1
                        refine ⟨HC811.out.keep d1 (fun e => hzy e.1), HC811.out.sp d2 (fun t _ _ e => hzy e.1), ?_⟩
                        obtain ⟨v, hv⟩ := d3
                        exact ⟨v, HC811.out.keep hv (fun e => hzy e.1)⟩
                      · obtain rfl : s = l := by omega
                        rw [hy] at hz
                        obtain rfl := Option.some.inj hz
                        exact ⟨HC11.out.keep (HC10.out.keep HK4.out (fun e => by have := e.2; omega)) (fun e => by have := e.2; omega), HC11.out.sp HKS.out (fun t _ _ e => by have := e.2; omega), HK9.out⟩
                  case measure =>
                    obtain ⟨hy, hyL, hup⟩ := HY.out
                    have e1 : upMeas G (.pointer (some ⟨y, 0, none⟩)) = G.D + 1 - l := by
                      show G.D + 1 - levOf G y = _
                      rw [HI.out.shape.levOf l hlD y hyL]
                    rw [e1]
                    cases hU : G.U y with
                    | none =>
                      rw [hU] at hup
                      obtain rfl : (none : Option Addr) = up := by injection hup
                      show 0 < _; omega
                    | some u =>
                      rw [hU] at hup
                      obtain rfl : (some ⟨u, 0, none⟩ : Option Addr) = up := by injection hup
                      have hlt : l < G.D := by
                        rcases Nat.lt_or_ge l G.D with h | h
                        · exact h
                        · exfalso
                          obtain rfl : l = G.D := by omega
                          rw [HI.out.shape.top] at hyL
                          obtain rfl : y = root := by simpa using hyL
                          rw [HI.out.shape.upr] at hU; cases hU
                      obtain ⟨u', hu1, _, hu3⟩ := HI.out.shape.above l hlt y hyL
                      rw [hU] at hu3
                      obtain rfl := Option.some.inj hu3
                      show G.D + 1 - levOf G u < _
                      rw [HI.out.shape.levOf (l + 1) (by omega) u hu1]; omega
          · have hlE : l = G.D + 1 := by omega
            subst hlE
            obtain ⟨rt, hrt, hrtL⟩ := HI.out.shape.anc_mem x hxL G.D (Nat.le_refl _)
            have hrr : rt = root := by rw [HI.out.shape.top] at hrtL; simpa using hrtL
            have hnone : anc G (G.D + 1) x = none := by
              show (anc G G.D x).bind G.U = _
              rw [hrt, hrr]; exact HI.out.shape.upr
            rw [hnone] at hv
            obtain rfl : _ = Value.pointer none := hv
            have nd : ∀ z, (∃ s, s < G.D + 1 ∧ anc G s x = some z) → G.R z ≠ none ∧ z ≠ j ∧ z ≠ qb ∧ z ≠ B := fun z ⟨s, hs, hz⟩ => by
              obtain ⟨z', hz', hzL⟩ := HI.out.shape.anc_mem x hxL s (by omega)
              rw [hz] at hz'
              obtain rfl := Option.some.inj hz'
              obtain ⟨_, _, _, _, _, zq, zj, zB, zSP⟩ := HND.out s z (by omega) hzL
              refine ⟨?_, zj, zq, zB⟩
              rw [(HI.out.shape.own s (by omega) z hzL).1]; simp
            have b8 := hC8.keep b7 (fun e => (nd B e.1).2.2.2 rfl)
            have k68 : ∀ y t v, y ≠ j → (y ≠ x ∨ t < 4) → (∀ z, (∃ s, s < G.D + 1 ∧ anc G s x = some z) → z ≠ y ∨ t < 4) → w6.cell? ⟨y, t, none⟩ = some v → w8.cell? ⟨y, t, none⟩ = some v := fun y t v h1 _ h2 hc => hC8.keep (HC7.out.keep hc (fun e => h1 e.1)) (fun e => by rcases h2 y e.1 with h | h; exact h rfl; have := e.2; omega)
            have u82 : w8.cell? ⟨x, 2, none⟩ = some (.slice (some ⟨A, 0, none⟩) (n' + 1) 17) := k68 x 2 _ (fun e => hjx.2.2 e.symm) (Or.inr (by omega)) (fun _ _ => Or.inr (by omega)) HU6.out.1
            have u83 : w8.cell? ⟨x, 3, none⟩ = some (.slice (some ⟨S, 0, none⟩) (n' + 1) 17) := k68 x 3 _ (fun e => hjx.2.2 e.symm) (Or.inr (by omega)) (fun _ _ => Or.inr (by omega)) HU6.out.2.1
            have ndA : ∀ t, ¬ ((fun y t => (∃ s, s < G.D + 1 ∧ anc G s x = some y) ∧ 4 ≤ t ∧ t ≤ 9) A t) := fun t e => by
              obtain ⟨s, hs, hz⟩ := e.1
              obtain ⟨z', hz', hzL⟩ := HI.out.shape.anc_mem x hxL s (by omega)
              rw [hz] at hz'
              obtain rfl := Option.some.inj hz'
              have h1 := (HI.out.shape.own s (by omega) A hzL).1
              rw [HOX.out.2.1] at h1; injection h1 with e2; injection e2 with e3 e4; cases e4
            have ndS : ∀ t, ¬ ((fun y t => (∃ s, s < G.D + 1 ∧ anc G s x = some y) ∧ 4 ≤ t ∧ t ≤ 9) S t) := fun t e => by
              obtain ⟨s, hs, hz⟩ := e.1
              obtain ⟨z', hz', hzL⟩ := HI.out.shape.anc_mem x hxL s (by omega)
              rw [hz] at hz'
              obtain rfl := Option.some.inj hz'
              have h1 := (HI.out.shape.own s (by omega) S hzL).1
              rw [HOX.out.2.2] at h1; injection h1 with e2; injection e2 with e3 e4; cases e4
            have ua8 := (HU6.out.2.2.1.next HC7.out (fun t e => hjx.1 e.1.symm)).next hC8 ndA
            obtain ⟨ys, us8, ul8⟩ := HU6.out.2.2.2
            have us8 := (us8.next HC7.out (fun t e => hjx.2.1 e.1.symm)).next hC8 ndS
            have hflat := flat_nodup id HS.out
            have hfirst : i = 0 → G.F x = G.F root := fun e0 => HPOS.out.first HI.out.shape (fun h => by
              have h1 := (HI.out.shape.leaf x hxL).2.2
              rw [List.head?_eq_getElem?] at h1
              have := HLO.out.2 0 _ (by omega) h1
              omega)
            have hiJ : i ≤ (G.J x).length := by have := HN.out; rw [← hJe.out, ← this.1]; exact this.2.2.2
            have hlenJ : (G.J x).length = n' := by rw [← hJe.out]; exact HN.out.1.symm
            have hput := inv_put (j := j) (P := fun y => ∃ s, s < G.D + 1 ∧ anc G s x = some y) (Q := fun y => y = qb ∨ y = j) HI.out hxL hiJ hflat hfirst (fun y ⟨s, h1, h2⟩ => ⟨s, by omega, h2⟩) (fun y _ e => by rcases e with e | e; rw [e]; exact HRQ.out.1; rw [e]; exact HRQ.out.2.1)
              ((HW7.out.mono (fun y t _ e => by
                rcases e with (e | e) | e | e | e
                · exact Or.inr (Or.inr (Or.inr (Or.inr (Or.inl e.1))))
                · exact Or.inr (Or.inr (Or.inr (Or.inr (Or.inr e.1))))
                · exact Or.inl (by rw [e, hA.out])
                · exact Or.inr (Or.inl (by rw [e, hSe.out]))
                · exact Or.inr (Or.inr (Or.inl e)))).trans hC8 (fun y t _ e => Or.inr (Or.inr (Or.inr (Or.inl ⟨e.1, e.2⟩)))))
              (by rw [hlenJ, ← hA.out]; exact u82) (by rw [hlenJ, ← hSe.out]; exact u83) (by rw [hlenJ, ← hA.out, insAt_map, ← hJe.out]; exact ua8) ⟨ys, by rw [hlenJ, ← hSe.out]; exact us8, by rw [hlenJ]; exact ul8⟩
              (fun s y hs hy => hd8 s y (by omega) hy)
            have CW8 : Chg (fun y t => G.R y ≠ none ∨ (y = qb ∧ (t = qo + 3 ∨ t = qo + 4 ∨ t = qo + 6)) ∨ ((y = j ∨ y ∈ G.flat) ∧ t = sl)) w w8 :=
              (HW7.out.mono (fun y t _ e => by
                obtain ⟨r1, r2, r3⟩ := HOX.out
                rcases e with (e | e) | e | e | e
                · exact Or.inr (Or.inl ⟨e.1, Or.inr e.2⟩)
                · exact Or.inr (Or.inr ⟨Or.inl e.1, e.2⟩)
                · left; rw [e, r2]; simp
                · left; rw [e, r3]; simp
                · left; rw [e.1, r1]; simp)).trans hC8 (fun y t _ e => Or.inl (nd y e.1).1)
            have HCW8 : Hid (Chg (fun y t => G.R y ≠ none ∨ (y = qb ∧ (t = qo + 3 ∨ t = qo + 4 ∨ t = qo + 6)) ∨ ((y = j ∨ y ∈ G.flat) ∧ t = sl)) w w8) := CW8
            have k38 : ∀ t v, w3.cell? ⟨qb, t, none⟩ = some v → w8.cell? ⟨qb, t, none⟩ = some v := fun t v hc => k68 qb t v (fun e => hjq e.symm) (Or.inl hqx.2.2) (fun z hz => Or.inl (nd z hz).2.2.1) (HC6.out.keep (HC5.out.keep (HC4.out.keep (HCB3.out.keep hc (fun e => e)) (fun e => hBq.1 e)) (fun e => e)) (fun e => by rcases e with e | e | e; exact hqx.1 e; exact hqx.2.1 e; exact hqx.2.2 e.1))
            have HX8 : Hid (w8.cell? ⟨qb, qo + 4, none⟩ = some (.int .i64 (n + 1)) ∧ I64 w8 qb (qo + 6)) := by
              obtain ⟨h1, v, h2⟩ := HX4.out
              exact ⟨k38 _ _ h1, v, k38 _ _ h2⟩
            have HQA : Hid (QAt w8 qb qo sl root) := by
              obtain ⟨tq, hq0⟩ := HQ.out.pl
              have kq : ∀ t v, t ≠ qo + 4 → t ≠ qo + 6 → w.cell? ⟨qb, t, none⟩ = some v → w8.cell? ⟨qb, t, none⟩ = some v := fun t v h1 h2 hc => k38 t v (HC3.out.keep hc (fun e => by rcases e.2 with e | e; exact h1 e; exact h2 e))
              exact ⟨⟨tq, CW8.pln _ _ hq0⟩, kq _ _ (by omega) (by omega) HQ.out.c0, kq _ _ (by omega) (by omega) HQ.out.c1, kq _ _ (by omega) (by omega) HQ.out.c2, kq _ _ (by omega) (by omega) HQ.out.c3⟩
            have HJP : Hid (w8.cell? ⟨j, sl, none⟩ = some (ptr x)) := hC8.keep HJ7.out (fun e => (nd j e.1).2.1 rfl)
            have HSO : Hid ((G.put x i j).flat.Pairwise (fun a b => id a < id b)) := put_sorted HI.out.shape HS.out HPOS.out hiJ HLO.out.1 HLO.out.2
            have HME : Hid (∀ a, a ∈ (G.put x i j).flat ↔ a = j ∨ a ∈ G.flat) := fun a => put_mem HI.out.shape HPOS.out a
            have HJX : Hid (∀ k ∈ (G.put x i j).J x, k = j ∨ k ∈ G.J x) := fun k hk => by
              have hk' : k ∈ insAt (G.J x) i j := by have e : (G.put x i j).J x = insAt (G.J x) i j := if_pos rfl; rwa [e] at hk
              unfold insAt at hk'
              rcases List.mem_append.1 hk' with h1 | h1
              · exact Or.inr (List.mem_of_mem_take h1)
              · rcases List.mem_cons.1 h1 with h1 | h1
                · exact Or.inl h1
                · exact Or.inr (List.mem_of_mem_drop h1)
            have hqlt : qb < w.heap.size := hqw
            rw [hlenJ] at hput
            have HPUT : Hid (Inv w8 (G.put x i j) (if n' = 16 then some x else none) root) := hput
            have hlen2 : ((G.put x i j).J x).length = n' + 1 := by
              have e : (G.put x i j).J x = insAt (G.J x) i j := if_pos rfl
              rw [e, insAt_length _ _ _ hiJ, hlenJ]
            clear hput CW8 k38 hflat hfirst hiJ hlenJ ua8 us8 ul8 ndA ndS k68 u83 nd hnone hrr hrt hrtL hC8 hd8 b7 j8 q72
            by_cases h16 : n' = 16
            · subst h16
              have hrec := fun (lb : Bool) => split_leaf (G.put x i j) w8 x root qb qo sl lb (by have := HPUT.out; rwa [if_pos rfl] at this) hxL hlen2 HQA.out HRQ.out.1 hsl (fun k hk => by
                rcases HJX.out k hk with e | e
                · rw [e]; exact ⟨HRQ.out.2.1, hjq, HCW8.out.pln _ _ HJ.out.pl, HCW8.out.has _ _ (HJ.out.lv sl hsl)⟩
                · obtain ⟨k1, k2, k3⟩ := HJB.out k (List.mem_flatMap.2 ⟨x, hxL, e⟩)
                  exact ⟨k1, k2, HCW8.out.pln _ _ k3.pl, HCW8.out.has _ _ (k3.lv sl hsl)⟩)
              have HREC : Hid (∀ lb : Bool, Calls Ybaz.prog 42 #[.pointer (some ⟨qb, qo, none⟩), .pointer (some ⟨x, 0, none⟩), .bool lb] w8 (SplitLPost w8 (G.put x i j) x qb qo sl)) := hrec
              have hfinal : ∀ w12, SplitLPost w8 (G.put x i j) x qb qo sl (.returned (.tuple #[])) w12 → ∃ G' root', Inv w12 G' none root' ∧ G'.flat.Pairwise (fun a b => id a < id b) ∧ (∀ a, a ∈ G'.flat ↔ a = j ∨ a ∈ G.flat) ∧ QAt w12 qb qo sl root' ∧ w12.cell? ⟨qb, qo + 4, none⟩ = some (.int .i64 (n + 1)) ∧ I64 w12 qb (qo + 6) ∧
                  Chg (fun x t => G.R x ≠ none ∨ (x = qb ∧ (t = qo + 3 ∨ t = qo + 4 ∨ t = qo + 6)) ∨ ((x = j ∨ x ∈ G.flat) ∧ t = sl)) w w12 ∧ (∀ x, x < w.heap.size → (G'.R x = none ↔ G.R x = none)) ∧ ∃ p, w12.cell? ⟨j, sl, none⟩ = some (ptr p) := fun w12 ⟨_, G3, root3, i1, i2, i3, i4, i5, i6⟩ => by
                have kq : ∀ t v, t ≠ qo + 3 → w8.cell? ⟨qb, t, none⟩ = some v → w12.cell? ⟨qb, t, none⟩ = some v := fun t v ht hc => i4.keep hc (fun e => by
                  rcases e with e | e | e
                  · exact e HRQ.out.1
                  · exact ht e.2
                  · rcases HJX.out qb e.1 with h | h
                    · exact hjq h.symm
                    · exact (HJB.out qb (List.mem_flatMap.2 ⟨x, hxL, h⟩)).2.1 rfl)
                refine ⟨G3, root3, i1, by rw [i2]; exact HSO.out, by rw [i2]; exact HME.out, i3, kq _ _ (by omega) HX8.out.1, ?_, HCW8.out.trans i4 (fun y t _ e => ?_), fun y hy => i5 y (Nat.lt_of_lt_of_le hy HCW8.out.size), ?_⟩
                · obtain ⟨v, hv⟩ := HX8.out.2; exact ⟨v, kq _ _ (by omega) hv⟩
                · rcases e with e | e | e
                  · exact Or.inl e
                  · exact Or.inr (Or.inl ⟨e.1, Or.inl e.2⟩)
                  · refine Or.inr (Or.inr ⟨?_, e.2⟩)
                    rcases HJX.out y e.1 with h | h
                    · exact Or.inl h
                    · exact Or.inr (List.mem_flatMap.2 ⟨x, hxL, h⟩)
                · exact i6 j x HRQ.out.2.1 hjq HJP.out
              have HFINAL : Hid (∀ w12, SplitLPost w8 (G.put x i j) x qb qo sl (.returned (.tuple #[])) w12 → _) := hfinal
              clear hrec hfinal hlen2
              go_wp2_with (first | (go_at_call 42; refine (HREC.out _).mono ?_; rintro e w12 hsp; have HE : Hid (e = .returned (.tuple #[])) := hsp.1; obtain rfl := HE.out; have HSPL : Hid (SplitLPost w8 (G.put x i j) x qb qo sl (.returned (.tuple #[])) w12) := hsp; clear hsp) | go_in)
              all_goals go_end0
              all_goals exact ⟨rfl, HFINAL.out _ HSPL.out⟩
            · have HI8 : Hid (Inv w8 (G.put x i j) none root) := by have := HPUT.out; rwa [if_neg h16] at this
              have kn : ¬ ((16 : Int) < (n' : Int) + 1) := by have := HN.out; omega
              have kn2 : (n' : Int) + 1 ≤ 16 := by have := HN.out; omega
              have kn3 : ((n' + 1 : Nat) : Int) ≤ 16 := by have := HN.out; omega
              clear hlen2 h16
              go_wp2_with (first | (go_at_call 42; fail) | go_in)
              go_end0
              exact ⟨rfl, G.put x i j, root, HI8.out, HSO.out, HME.out, HQA.out, HX8.out.1, HX8.out.2, HCW8.out, fun y hy => Iff.rfl, x, HJP.out⟩
    | succ l =>
      have hIB4 : Inv w4 G none root := HIB.out.next hC4 (fun y t _ e => by
        cases hR : G.R y with
        | none => rfl
        | some z => have := HRL.out y (by rw [hR]; simp); have := HBn.out; omega)
      have hX := hIB4.inner l (by omega) x hpos.mem
      have hnin := HI.out.shape.inner l (by omega) x hpos.mem
      have hov : (G.K x).length ≤ 8 := hnin.2.1
      have hne : ∀ k ∈ G.K x, id (G.F k) ≠ id j := fun k hk => HNE.out _ (HI.out.shape.F_flat l (by omega) k (HI.out.shape.kid l (by omega) x k hpos.mem hk))
      have hasc := HI.out.shape.kids_asc id HS.out l (by omega) x hpos.mem
      obtain ⟨t, ht1, ht2, ht3⟩ := count_before (fun k => id (G.F k)) (id j) (G.K x) hasc hne
      obtain ⟨n', hn'⟩ : ∃ n', n' = (G.K x).length := ⟨_, rfl⟩
      obtain ⟨i0, hi0⟩ : ∃ i0, i0 = t - 1 := ⟨_, rfl⟩
      have hil : i0 < (G.K x).length := by omega
      obtain ⟨c, hc⟩ : ∃ c, (G.K x)[i0]? = some c := ⟨_, List.getElem?_eq_getElem hil⟩
      have hdown := hpos.down HI.out.shape (by omega) hasc ht2 ht3 (c := c) (by rw [← hi0]; exact hc)
      have HDN : Hid (∃ pl ql, Pos G id (id j) l c pl ql) := ⟨_, _, hdown⟩
      have hbef := before_36 qb qo j B x (G.A x) n' (n' - 1) (G.C x) t (fun i => (G.K x).getD i 0) (fun i => G.F ((G.K x).getD i 0)) (fun i => id (G.F ((G.K x).getD i 0))) (id j) w4.drew (by omega) (by omega) (by omega)
        (hC4.keep q0 (fun e => hBq.1 e)) hx0 (by rw [hn']; exact hX.c1) (fun i hi => by
          have hil : i < (G.K x).length := by omega
          have e1 : (G.K x).getD i 0 = (G.K x)[i] := by simp [List.getD, List.getElem?_eq_getElem hil]
          have hkm : (G.K x)[i] ∈ G.L l := HI.out.shape.kid l (by omega) x _ hpos.mem (List.getElem_mem hil)
          show w4.cell? ⟨G.A x, i, none⟩ = some (.pointer (some ⟨(G.K x).getD i 0, 0, none⟩)) ∧ w4.cell? ⟨(G.K x).getD i 0, 4, none⟩ = some (.pointer (some ⟨G.F ((G.K x).getD i 0), 0, none⟩)) ∧ w4.cell? ⟨G.F ((G.K x).getD i 0), 6, none⟩ = some (.int .i64 (id (G.F ((G.K x).getD i 0))))
          rw [e1]
          have hf := HFB.out _ (HI.out.shape.F_flat l (by omega) _ hkm)
          exact ⟨hX.ka.cell i _ (by rw [List.getElem?_map, List.getElem?_eq_getElem hil]; rfl), (hIB4.node l (by omega) _ hkm).c4, hC4.keep hf.2 (fun e => hf.1 e)⟩)
        (hC4.keep jB6 (fun e => hBq.2.1 e))
        (fun i hi => ht2 i _ hi (by simp [List.getD, List.getElem?_eq_getElem (show i < (G.K x).length by omega)])) (fun i hi hi' => ht3 i _ hi (by simp [List.getD, List.getElem?_eq_getElem (show i < (G.K x).length by omega)]))
      have a0 : w4.cell? ⟨G.A x, i0, none⟩ = some (.pointer (some ⟨c, 0, none⟩)) := hX.ka.cell i0 _ (by rw [List.getElem?_map, hc]; rfl)
      have x1 := hX.c1
      rw [← hn'] at x1
      obtain ⟨A, hA⟩ : ∃ A, A = G.A x := ⟨_, rfl⟩
      obtain ⟨C, hC⟩ : ∃ C, C = G.C x := ⟨_, rfl⟩
      rw [← hA] at a0
      rw [← hA, ← hC] at x1
      have HBEF : Hid (Calls Ybaz.prog 35 #[.pointer (some ⟨qb, qo, none⟩), .pointer (some ⟨j, 0, none⟩), .int .i64 n', .func (.func 36) #[] #[.pointer (some ⟨B, 0, none⟩)]] w4.drew fun e w' => e = .returned (.int .i64 t) ∧ Below w4.drew.heap.size w4.drew w') := hbef
      have HC4 : Hid (Chg (fun y t => y = B) wB w4) := hC4
      have hxb0 : w4.cell? ⟨B, 0, none⟩ = some (.pointer (some ⟨x, 0, none⟩)) := hx0
      have fB : w4.frozen? ⟨B, 0, none⟩ = false := (hC4.pln _ _ HPB.out).free 0
      have hB4 : B < w4.heap.size := World.block_lt_of_cell? _ _ hx0
      have hA4 : A < w4.heap.size := World.block_lt_of_cell? _ _ a0
      have hx4 : x < w4.heap.size := World.block_lt_of_cell? _ _ x1
      have HLV : Hid (boxLev G B w4 = l + 1) := hlev
      have nxB : (⟨x, 1, none⟩ : Addr) ≠ ⟨B, 0, none⟩ := by intro e; cases e
      have nAB : (⟨A, i0, none⟩ : Addr) ≠ ⟨B, 0, none⟩ := by
        intro e
        have e1 : A = B := by injection e
        have h1 := HRL.out A (by rw [hA, (HI.out.shape.own (l + 1) hl x hpos.mem).2.1]; simp)
        have := HBn.out; omega
      have HI0 : Hid (i0 = t - 1 ∧ t ≤ n' ∧ i0 < n') := ⟨hi0, by omega, by omega⟩
      have HLD : Hid (l < G.D) := by show l < G.D; omega
      have l0 : (i0 : Int) < (n' : Int) := by omega
      have kmx : max (IntKind.i64.wrap ((t : Int) - 1)) 0 = (i0 : Int) := by rw [IntKind.wrap_i64]; omega
      clear hpos hx0 hC4 hlev hIB4 hX hnin hov hne hasc ht1 ht2 ht3 hc hdown hbef hA hC hn' hil
      have hdone : ∀ w5 : World, Below w4.drew.heap.size w4.drew w5 → (∃ l pl x ql, l ≤ G.D ∧ Pos G id (id j) l x pl ql ∧ (w5.setCell ⟨B, 0, none⟩ (.pointer (some ⟨c, 0, none⟩))).cell? ⟨B, 0, none⟩ = some (ptr x) ∧ Chg (fun y t => y = B) wB (w5.setCell ⟨B, 0, none⟩ (.pointer (some ⟨c, 0, none⟩)))) ∧ boxLev G B (w5.setCell ⟨B, 0, none⟩ (.pointer (some ⟨c, 0, none⟩))) < boxLev G B w4 := fun w5 hB5 => by
        obtain ⟨pl', ql', hp⟩ := HDN.out
        have t0 := (hB5.cell (p := ⟨B, 0, none⟩) hB4).trans hxb0
        have hcc : (w5.setCell ⟨B, 0, none⟩ (.pointer (some ⟨c, 0, none⟩))).cell? ⟨B, 0, none⟩ = some (ptr c) := World.cell?_setCell_same _ _ _ t0
        refine ⟨⟨l, pl', c, ql', by have := HLD.out; omega, hp, hcc, ((HC4.out.drew).below hB5).set B 0 _ (fun _ => rfl)⟩, ?_⟩
        rw [HLV.out]
        unfold boxLev
        rw [hcc]
        show levOf G c < _
        rw [HI.out.shape.levOf l (by have := HLD.out; omega) c hp.mem]; omega
      have HDONE : Hid (∀ w5 : World, Below w4.drew.heap.size w4.drew w5 → (∃ l pl x ql, l ≤ G.D ∧ Pos G id (id j) l x pl ql ∧ (w5.setCell ⟨B, 0, none⟩ (.pointer (some ⟨c, 0, none⟩))).cell? ⟨B, 0, none⟩ = some (ptr x) ∧ Chg (fun y t => y = B) wB (w5.setCell ⟨B, 0, none⟩ (.pointer (some ⟨c, 0, none⟩)))) ∧ boxLev G B (w5.setCell ⟨B, 0, none⟩ (.pointer (some ⟨c, 0, none⟩))) < boxLev G B w4) := hdone
      clear hdone
      clear hi0
      go_upto_region 15 with fail
      refine wp_region_T [17] (fun w' : World => w'.cell? ⟨B, 0, none⟩ = some (.pointer (some ⟨x, 0, none⟩)) ∧ w'.cell? ⟨x, 1, none⟩ = some (.slice (some ⟨A, 0, none⟩) n' C) ∧ w'.cell? ⟨A, i0, none⟩ = some (.pointer (some ⟨c, 0, none⟩))) (fun _ => True) (by kernel_rfl) ?_
      have hSS : (fun w' : World => w'.cell? ⟨B, 0, none⟩ = some (.pointer (some ⟨x, 0, none⟩)) ∧ w'.cell? ⟨x, 1, none⟩ = some (.slice (some ⟨A, 0, none⟩) n' C) ∧ w'.cell? ⟨A, i0, none⟩ = some (.pointer (some ⟨c, 0, none⟩))) w4.drew := ⟨hxb0, x1, a0⟩
      have hT1 : (fun _ : World => True) w4.drew := trivial
      refine wpAnyT_take (i := 0) (v := ?_) (by kernel_rfl) rfl (fun _ _ _ h => h) (Or.inl ⟨by rfl, ?_⟩) (by assumption) (by assumption) ?_
      rotate_left
      · (intro w hSw; (try dsimp only at hSw); go_simp; try (with_reducible rfl))
      simp only [Act.put, List.setIfInBounds_toArray, List.set_cons_zero, List.set_cons_succ]
      refine wpAnyT_take (i := 1) (v := ?_) (by kernel_rfl) rfl (fun _ _ _ h => h) (Or.inl ⟨by rfl, ?_⟩) (by assumption) (by assumption) ?_
      rotate_left
      · (intro w hSw; (try dsimp only at hSw); go_simp; try (with_reducible rfl))
      simp only [Act.put, List.setIfInBounds_toArray, List.set_cons_zero, List.set_cons_succ]
      refine wpAnyT_take (i := 2) (v := ?_) (by kernel_rfl) rfl (fun _ _ _ h => h) (Or.inl ⟨by rfl, ?_⟩) (by assumption) (by assumption) ?_
      rotate_left
      · (intro w hSw; (try dsimp only at hSw); go_simp; try (with_reducible rfl))
      simp only [Act.put, List.setIfInBounds_toArray, List.set_cons_zero, List.set_cons_succ]
      refine wpAnyT_take (i := 3) (v := ?_) (by kernel_rfl) rfl (fun _ _ _ h => h) (Or.inl ⟨by rfl, ?_⟩) (by assumption) (by assumption) ?_
      rotate_left
      · (intro w hSw; (try dsimp only at hSw); go_simp; try (with_reducible rfl))
      simp only [Act.put, List.setIfInBounds_toArray, List.set_cons_zero, List.set_cons_succ]
      refine wpAnyT_take (i := 4) (v := ?_) (by kernel_rfl) rfl (fun _ _ _ h => h) (Or.inl ⟨by rfl, ?_⟩) (by assumption) (by assumption) ?_
      rotate_left
      · (intro w hSw; (try dsimp only at hSw); go_simp; try (with_reducible rfl))
      simp only [Act.put, List.setIfInBounds_toArray, List.set_cons_zero, List.set_cons_succ]
      refine wpAnyT_take (i := 5) (v := ?_) (by kernel_rfl) rfl (fun _ _ _ h => h) (Or.inl ⟨by rfl, ?_⟩) (by assumption) (by assumption) ?_
      rotate_left
      · (intro w hSw; (try dsimp only at hSw); go_simp; try (with_reducible rfl))
      simp only [Act.put, List.setIfInBounds_toArray, List.set_cons_zero, List.set_cons_succ]
      refine wpAnyT_take (i := 6) (v := ?_) (by kernel_rfl) rfl (fun _ _ _ h => h) (Or.inl ⟨by rfl, ?_⟩) (by assumption) (by assumption) ?_
      rotate_left
      · (intro w hSw; (try dsimp only at hSw); go_simp; try (with_reducible rfl))
      simp only [Act.put, List.setIfInBounds_toArray, List.set_cons_zero, List.set_cons_succ]
      refine wpAnyT_take (i := 7) (v := ?_) (by kernel_rfl) rfl (fun _ _ _ h => h) (Or.inl ⟨by rfl, ?_⟩) (by assumption) (by assumption) ?_
      rotate_left
      · (intro w hSw; (try dsimp only at hSw); go_simp; try (with_reducible rfl))
      simp only [Act.put, List.setIfInBounds_toArray, List.set_cons_zero, List.set_cons_succ]
      refine wpAnyT_take (i := 8) (v := ?_) (by kernel_rfl) rfl (fun _ _ _ h => h) (Or.inl ⟨by rfl, ?_⟩) (by assumption) (by assumption) ?_
      rotate_left
      · (intro w hSw; (try dsimp only at hSw); go_simp; try (with_reducible rfl))
      simp only [Act.put, List.setIfInBounds_toArray, List.set_cons_zero, List.set_cons_succ]
      refine wpAnyT_take (i := 9) (v := ?_) (by kernel_rfl) rfl (fun _ _ _ h => h) (Or.inl ⟨by rfl, ?_⟩) (by assumption) (by assumption) ?_
      rotate_left
      · (intro w hSw; (try dsimp only at hSw); go_simp; try (with_reducible rfl))
      simp only [Act.put, List.setIfInBounds_toArray, List.set_cons_zero, List.set_cons_succ]
      refine wpAnyT_take (i := 10) (v := ?_) (by kernel_rfl) rfl (fun _ _ _ h => h) (Or.inl ⟨by rfl, ?_⟩) (by assumption) (by assumption) ?_
      rotate_left
      · (intro w hSw; (try dsimp only at hSw); go_simp; try (with_reducible rfl))
      simp only [Act.put, List.setIfInBounds_toArray, List.set_cons_zero, List.set_cons_succ]
      refine wpAnyT_take (i := 11) (v := ?_) (by kernel_rfl) rfl (fun _ _ _ h => h) (Or.inl ⟨by rfl, ?_⟩) (by assumption) (by assumption) ?_
      rotate_left
      · (intro w hSw; (try dsimp only at hSw); go_simp; try (with_reducible rfl))
      simp only [Act.put, List.setIfInBounds_toArray, List.set_cons_zero, List.set_cons_succ]
      refine wpAnyT_one (i := 12) (by kernel_rfl) rfl (by rfl) (fun K hK => ?_)
      go_simp
      go_at_call 35
      refine HBEF.out.mono ?_
      rintro e w5 ⟨rfl, hB5⟩
      have HB5 : Hid (Below w4.drew.heap.size w4.drew w5) := hB5
      have t0 := (hB5.cell (p := ⟨B, 0, none⟩) hB4).trans hxb0
      have ta := (hB5.cell (p := ⟨A, i0, none⟩) hA4).trans a0
      have tx := (hB5.cell (p := ⟨x, 1, none⟩) hx4).trans x1
      have s0 := (World.frozen?_of_block (hB5.block B hB4)).trans fB
      have hS5 : (fun w' : World => w'.cell? ⟨B, 0, none⟩ = some (.pointer (some ⟨x, 0, none⟩)) ∧ w'.cell? ⟨x, 1, none⟩ = some (.slice (some ⟨A, 0, none⟩) n' C) ∧ w'.cell? ⟨A, i0, none⟩ = some (.pointer (some ⟨c, 0, none⟩))) w5 := ⟨t0, tx, ta⟩
      have hT5 : (fun _ : World => True) w5 := trivial
      clear hB5
      refine hK.out _ _ ⟨⟨fun _ => hS5, trivial⟩, ?_⟩
      try simp only [Act.put, List.setIfInBounds_toArray, List.set_cons_zero, List.set_cons_succ]
      clear hK hSS K hT1
      refine wpAnyT_take (i := 13) (v := ?_) (by kernel_rfl) rfl (fun _ _ _ h => h) (Or.inl ⟨by rfl, ?_⟩) (by assumption) (by assumption) ?_
      rotate_left
      · (intro w hSw; (try dsimp only at hSw); go_simp; try (with_reducible rfl))
      simp only [Act.put, List.setIfInBounds_toArray, List.set_cons_zero, List.set_cons_succ]
      refine wpAnyT_take (i := 14) (v := ?_) (by kernel_rfl) rfl (fun _ _ _ h => h) (Or.inl ⟨by rfl, ?_⟩) (by assumption) (by assumption) ?_
      rotate_left
      · (intro w hSw; (try dsimp only at hSw); go_simp; try (with_reducible rfl))
      simp only [Act.put, List.setIfInBounds_toArray, List.set_cons_zero, List.set_cons_succ]
      refine wpAnyT_take (i := 15) (v := ?_) (by kernel_rfl) rfl (fun _ _ _ h => h) (Or.inl ⟨by rfl, ?_⟩) (by assumption) (by assumption) ?_
      rotate_left
      · (intro w hSw; (try dsimp only at hSw); go_simp; try (with_reducible rfl))
      simp only [Act.put, List.setIfInBounds_toArray, List.set_cons_zero, List.set_cons_succ]
      refine wpAnyT_take (i := 16) (v := ?_) (by kernel_rfl) rfl (fun _ _ _ h => h) (Or.inl ⟨by rfl, ?_⟩) (by assumption) (by assumption) ?_
      rotate_left
      · (intro w hSw; (try dsimp only at hSw); go_simp; try (with_reducible rfl))
      simp only [Act.put, List.setIfInBounds_toArray, List.set_cons_zero, List.set_cons_succ]
      refine wpAnyT_one (i := 17) (by kernel_rfl) rfl (by rfl) (fun K hK => ?_)
      go_simp
      refine hK.out _ _ ⟨⟨fun h => (by cases h), trivial⟩, wpAnyT_done (by kernel_rfl) ?_ _⟩
      try simp only [Act.put, List.setIfInBounds_toArray, List.set_cons_zero, List.set_cons_succ]
      clear hK K
      go_wp2
      go_roundw
      case rel => exact (HDONE.out _ HB5.out).1
      case measure => exact (HDONE.out _ HB5.out).2
end Go.Proofs.YbulkdxqmGreatFmt
