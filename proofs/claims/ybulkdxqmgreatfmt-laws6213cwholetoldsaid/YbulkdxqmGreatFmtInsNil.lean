/- LawS6213CWhole: insert into a queue that holds no job. -/
import Derived.Test.YbulkdxqmGreatFmtInsert
import Derived.Test.YbulkdxqmGreatFmtLeaf
namespace Go.Proofs.YbulkdxqmGreatFmt
set_option linter.unusedVariables false
set_option linter.unusedSimpArgs false
open Go.RowKit
attribute [local go_sem] run_store_floatB

/-- The zero bound. -/
def bd0 : Array Value := #[Value.int IntKind.i64 0, Value.int IntKind.i64 0, Value.int IntKind.i64 0, Value.int IntKind.i64 0,
          Value.float FloatKind.f64 0, Value.float FloatKind.f64 0, Value.float FloatKind.f64 0,
          Value.float FloatKind.f64 0, Value.float FloatKind.f64 0, Value.float FloatKind.f64 0,
          Value.float FloatKind.f64 0, Value.float FloatKind.f64 0, Value.pointer none]
def Bd (w : World) (b : Nat) : Prop := ∀ t v, bd0[t]? = some v → w.cell? ⟨b, t, none⟩ = some v

/-- append where there is room, met outside a region's own walk. -/
theorem wp_append_room {P : Program} {o : Oper} {a : Act} {w : World} {K : Act → World → Prop} {Q : Exit → Act → World → Prop}
    (hg : o.guard = none) (s x : Operand) (t : TypeId) (hop : o.op = Op.call { callee := Callee.builtin Builtin.append, args := #[s, x], argTypes := #[t, t] })
    (e : TypeId) (i : TypeInfo) (size : Nat) (h1 : P.underlying t = some (.slice e)) (h2 : P.info? e = some i) (h4 : i.size = size)
    (b off n cap : Nat) (hs : a.eval s = .slice (some ⟨b, off, none⟩) n cap)
    (ad : Addr) (m c : Nat) (news : List Value) (hx : a.eval x = .slice (some ad) m c) (hn : news.length = m * size) (hc : ∀ j u, news[j]? = some u → w.cell? (ad.add j) = some u) (h1c : ∀ u ∈ news, u.oneCell' = true)
    (hroom : n + m ≤ cap) (hspare : ∀ j, j < news.length → (w.cell? ⟨b, off + n * size + j, none⟩).isSome = true ∧ w.frozen? ⟨b, off + n * size + j, none⟩ = false)
    (hK : K (a.put o.dst (.slice (some ⟨b, off, none⟩) (n + m) cap)) (w.setCells b (off + n * size) news)) : Oper.wp P o a w K Q := by
  have h := step_append_room (ops := #[]) (E := True) (Q := Q) hg s x t hop e i size h1 h2 h4 b off n cap hs ad m c news hx hn hc h1c hroom hspare hK
  rwa [if_pos (by simp [Region.wanted, hg])] at h

/-- The leaf's cells written. -/
def fillW (w : World) (b ja sa j : Nat) (s : Int) : World := (((((((((((((((((((((w.setCell ⟨b, 2, none⟩ (.slice (some ⟨ja, 0, none⟩) 1 17)).setCell ⟨b, 3, none⟩ (.slice (some ⟨sa, 0, none⟩) 1 17)).setCell ⟨b, 4, none⟩ (.pointer (some ⟨j, 0, none⟩))).setCell ⟨b, 5, none⟩ (.int .i64 s)).setCell ⟨b, 6, none⟩ (.int .i64 s)).setCell ⟨b, 7, none⟩ (.int .i64 s)).setCell ⟨b, 8, none⟩ (.float .f64 INF)).setCell ⟨b, 9, none⟩ (.int .i64 s)).setCell ⟨b, 10, none⟩ (.int .i64 0)).setCell ⟨b, 11, none⟩ (.int .i64 0)).setCell ⟨b, 12, none⟩ (.int .i64 0)).setCell ⟨b, 13, none⟩ (.int .i64 0)).setCell ⟨b, 14, none⟩ (.float .f64 0)).setCell ⟨b, 15, none⟩ (.float .f64 0)).setCell ⟨b, 16, none⟩ (.float .f64 0)).setCell ⟨b, 17, none⟩ (.float .f64 0)).setCell ⟨b, 18, none⟩ (.float .f64 0)).setCell ⟨b, 19, none⟩ (.float .f64 0)).setCell ⟨b, 20, none⟩ (.float .f64 0)).setCell ⟨b, 21, none⟩ (.float .f64 0)).setCell ⟨b, 22, none⟩ (.pointer none))
theorem fill_chg (w : World) (b ja sa j : Nat) (s : Int) : Chg (fun y _ => y = b) w (fillW w b ja sa j s) := by
  unfold fillW
  with_reducible (repeat (first | exact Chg.refl _ _ | refine Chg.set ?_ _ _ _ (fun _ => rfl)))
theorem fill_at (w : World) (b ja sa j : Nat) (s : Int) (h : ∀ t, t < 24 → (w.cell? ⟨b, t, none⟩).isSome = true) : (fillW w b ja sa j s).cell? ⟨b, 0, none⟩ = w.cell? ⟨b, 0, none⟩ ∧ (fillW w b ja sa j s).cell? ⟨b, 1, none⟩ = w.cell? ⟨b, 1, none⟩ ∧ (fillW w b ja sa j s).cell? ⟨b, 23, none⟩ = w.cell? ⟨b, 23, none⟩ ∧ (fillW w b ja sa j s).cell? ⟨b, 2, none⟩ = some (.slice (some ⟨ja, 0, none⟩) 1 17) ∧ (fillW w b ja sa j s).cell? ⟨b, 3, none⟩ = some (.slice (some ⟨sa, 0, none⟩) 1 17) ∧ (fillW w b ja sa j s).cell? ⟨b, 4, none⟩ = some (.pointer (some ⟨j, 0, none⟩)) ∧ (fillW w b ja sa j s).cell? ⟨b, 5, none⟩ = some (.int .i64 s) ∧ (fillW w b ja sa j s).cell? ⟨b, 6, none⟩ = some (.int .i64 s) ∧ (fillW w b ja sa j s).cell? ⟨b, 7, none⟩ = some (.int .i64 s) ∧ (fillW w b ja sa j s).cell? ⟨b, 8, none⟩ = some (.float .f64 INF) ∧ (fillW w b ja sa j s).cell? ⟨b, 9, none⟩ = some (.int .i64 s) := by
  have h2 := h 2 (by omega)
  have h3 := h 3 (by omega)
  have h4 := h 4 (by omega)
  have h5 := h 5 (by omega)
  have h6 := h 6 (by omega)
  have h7 := h 7 (by omega)
  have h8 := h 8 (by omega)
  have h9 := h 9 (by omega)
  refine ⟨?_, ?_, ?_, ?_, ?_, ?_, ?_, ?_, ?_, ?_, ?_⟩ <;> (unfold fillW; simp [cell_ne, cell_eq, h2, h3, h4, h5, h6, h7, h8, h9])
theorem fill_leaf {w4 w9 : World} {b ja sa j : Nat} {s : Int} (hb : Plain w4 b 142) (hc : ∀ t v, (newT ja sa)[t]? = some v → w4.cell? ⟨b, t, none⟩ = some v) (h9 : Chg (fun y _ => y = ja ∨ y = sa) w4 w9) (hbj : b ≠ ja) (hbs : b ≠ sa) (ha : Arr w9 ja 23 1 1 17 [ptr j]) (hs : Arr w9 sa 134 4 1 17 [.int .i64 s, .int .i64 s, .int .i64 s, .float .f64 INF]) :
    Chg (fun y _ => y = b ∨ y = ja ∨ y = sa) w4 (fillW w9 b ja sa j s) ∧ LeafAt (fillW w9 b ja sa j s) none j ja sa [j] b := by
  have kc : ∀ t v, (newT ja sa)[t]? = some v → w9.cell? ⟨b, t, none⟩ = some v := fun t v ht => h9.keep (hc t v ht) (fun e => by rcases e with e | e; exact hbj e; exact hbs e)
  have hh : ∀ t, t < 24 → (w9.cell? ⟨b, t, none⟩).isSome = true := fun t ht => by
    have : (newT ja sa)[t]? = some ((newT ja sa)[t]'(by show t < 24; exact ht)) := Array.getElem?_eq_getElem _
    rw [kc t _ this]; rfl
  obtain ⟨e0, e1, e23, e2, e3, e4, e5, e6, e7, e8, e9⟩ := fill_at w9 b ja sa j s hh
  have cf := fill_chg w9 b ja sa j s
  refine ⟨(h9.mono (fun y t _ e => Or.inr e)).trans cf (fun y t _ e => Or.inl e), ?_⟩
  refine ⟨⟨cf.pln _ _ (h9.pln _ _ hb), e0.trans (kc 0 _ rfl), e4, ⟨_, _, _, e5, e6, e7, e8⟩, ⟨_, e9⟩, e23.trans (kc 23 _ rfl)⟩, e1.trans (kc 1 _ rfl), e2, e3, ha.next cf (fun t e => hbj e.symm), _, hs.next cf (fun t e => hbs e.symm), fun t ht => ?_⟩
  obtain rfl : t = 0 := by simp at ht; omega
  exact ⟨_, _, _, rfl, rfl, rfl, rfl⟩

/-- The tree of one leaf. -/
def gh1 (b ja sa j : Nat) : Gh := { D := 0, L := fun _ => [b], K := fun _ => [], J := fun _ => [j], U := fun _ => none, F := fun _ => j, A := fun _ => ja, S := fun _ => sa, C := fun _ => 0, R := fun x => if x = b then some (b, 0) else if x = ja then some (b, 1) else if x = sa then some (b, 2) else none }
theorem inv1 {w : World} {b ja sa j : Nat} (h : LeafAt w none j ja sa [j] b) (hbj : b ≠ ja) (hbs : b ≠ sa) (hjs : ja ≠ sa) : Inv w (gh1 b ja sa j) none b := by
  have hja := h.ja.lt
  obtain ⟨xs, hxs, _⟩ := h.sa
  have hsa := hxs.lt
  have hb := h.node.pl.lt
  refine ⟨⟨rfl, (fun l hl => absurd (show l < 0 from hl) (Nat.not_lt_zero _)), (fun l hl => by simp [gh1]), fun l l' x hl hl' _ _ => ?_, (fun l hl => absurd (show l < 0 from hl) (Nat.not_lt_zero _)), rfl, fun x hx => ?_, (fun l hl => absurd (show l < 0 from hl) (Nat.not_lt_zero _)), fun l hl x hx => ?_⟩, fun x hx => ?_, (fun l hl => absurd (show l < 0 from hl) (Nat.not_lt_zero _)), fun x hx => ?_⟩
  · have h1 : l ≤ 0 := hl
    have h2 : l' ≤ 0 := hl'
    omega
  · refine ⟨by simp [gh1], ?_, by simp [gh1]⟩
    show 1 ≤ _
    omega
  · have : x = b := by simpa [gh1] using hx
    subst this
    refine ⟨by simp [gh1], ?_, fun _ => ?_⟩
    · show (if ja = x then _ else if ja = ja then _ else _) = _
      rw [if_neg (fun e => hbj e.symm), if_pos rfl]
    · show (if sa = x then _ else if sa = ja then _ else if sa = sa then _ else _) = _
      rw [if_neg (fun e => hbs e.symm), if_neg (fun e => hjs e.symm), if_pos rfl]
  · have : x = b := by simpa [gh1] using hx
    subst this
    exact h
  · show (if x = b then _ else if x = ja then _ else if x = sa then _ else none) = none
    rw [if_neg (by omega), if_neg (by omega), if_neg (by omega)]

theorem and_pass {p q : Prop} (h : p) (hq : p → q) : p ∧ q := ⟨h, hq h⟩

theorem Arr.push {W : World} {g e k c : Nat} {vs : List Value} (h : Arr W g e k 0 c []) (hv : vs.length = k) (hc : 0 < c) (h1 : ∀ v ∈ vs, v.oneCell' = true) : Arr (W.setCells g (0 + 0 * k) vs) g e k 1 c vs := by
  have hk : k ≤ c * k := by have := Nat.mul_le_mul_right k hc; omega
  refine ⟨fun j v hj => ?_, fun j hj => has_setCells _ _ _ _ _ _ (h.room j hj), fun j => by rw [World.frozen?_setCells]; exact h.free j, shape_setCells _ _ _ _ _ _ h.shp, by omega, hc, h.cm, h1⟩
  have hjl := (List.getElem?_eq_some_iff.1 hj).1
  have := World.cell?_setCells_in g vs (0 + 0 * k) W (fun t ht => h.room _ (by omega)) j hjl
  rw [Nat.zero_mul, Nat.zero_add, Nat.zero_add] at this
  rw [Nat.zero_mul, Nat.zero_add, this, ← List.getElem?_eq_getElem]; exact hj

set_option maxHeartbeats 8000000 in
set_option maxRecDepth 100000 in
theorem insert15_nil (w : World) (qb qo sl j spb : Nat) (n mv : Int) (id slots : Nat → Int) (hpl : ∃ t, Plain w qb t) (c0 : w.cell? ⟨qb, qo, none⟩ = some (.func (.func 4) #[] #[])) (c1 : w.cell? ⟨qb, qo + 1, none⟩ = some (.int .i64 sl)) (c2 : w.cell? ⟨qb, qo + 2, none⟩ = some (.bool false)) (c3 : w.cell? ⟨qb, qo + 3, none⟩ = some (.pointer none)) (hqn : w.cell? ⟨qb, qo + 4, none⟩ = some (.int .i64 n)) (hqm : w.cell? ⟨qb, qo + 6, none⟩ = some (.int .i64 mv)) (hq7 : w.cell? ⟨qb, qo + 7, none⟩ = some (.pointer (some ⟨spb, 0, none⟩))) {spa : Option Addr} (hspb : w.cell? ⟨spb, 0, none⟩ = some (.slice spa 0 0)) (hn1 : 0 ≤ n) (hn2 : n ≤ 1000000) (hsl : sl < 3) (hsq : spb ≠ qb)
    (hj : JobAt w j (id j) (slots j)) (hjq : j ≠ qb) :
    Calls Ybaz.prog 15 #[.pointer (some ⟨qb, qo, none⟩), .pointer (some ⟨j, 0, none⟩)] w fun e w' => e = .returned (.tuple #[]) ∧ ∃ G' root', Inv w' G' none root' ∧ G'.flat = [j] ∧ QAt w' qb qo sl root' ∧ w'.cell? ⟨qb, qo + 4, none⟩ = some (.int .i64 (n + 1)) ∧ I64 w' qb (qo + 6) ∧
      Chg (fun x t => (x = qb ∧ (t = qo + 3 ∨ t = qo + 4 ∨ t = qo + 6)) ∨ (x = j ∧ t = sl)) w w' ∧ (∀ x, x < w.heap.size → G'.R x = none) ∧ ∃ p, w'.cell? ⟨j, sl, none⟩ = some (ptr p) := by
  have HJ : Hid (JobAt w j (id j) (slots j)) := hj
  have HPL : Hid (∃ t, Plain w qb t) := hpl
  have HQC : Hid (w.cell? ⟨qb, qo, none⟩ = some (.func (.func 4) #[] #[]) ∧ w.cell? ⟨qb, qo + 1, none⟩ = some (.int .i64 sl) ∧ w.cell? ⟨qb, qo + 2, none⟩ = some (.bool false) ∧ w.cell? ⟨qb, qo + 3, none⟩ = some (.pointer none)) := ⟨c0, c1, c2, c3⟩
  have j4 := hj.c4
  have j8 := hj.c8
  have j18 := hj.c18
  have hqw : qb < w.heap.size := World.block_lt_of_cell? _ _ c3
  have hjw : j < w.heap.size := hj.pl.lt
  have hspw : spb < w.heap.size := World.block_lt_of_cell? _ _ hspb
  have fq : ∀ t, w.frozen? ⟨qb, t, none⟩ = false := fun t => by obtain ⟨tq, hq0⟩ := hpl; exact hq0.free t
  have f4 := fq (qo + 4)
  have f6 := fq (qo + 6)
  have wn : IntKind.i64.wrap (n + 1) = n + 1 := by rw [IntKind.wrap_i64]; omega
  clear hj hpl c0 c1 fq
  go_enter Ybaz.func15, Ybaz.ntmps15
  go_upto_region 1 with (go_at_call 31; refine (settle31_nil qb qo _ c3).mono ?_; rintro e w1 ⟨rfl, hw⟩; obtain rfl : w = w1 := hw.symm)
  go_upto_region 2 with (go_at_call 32; refine (spanOf32 j (slots j) _ j8 j4 j18).mono ?_; rintro e w1 ⟨rfl, hB1⟩; have HB1 : Hid (Below w.heap.size w w1) := hB1; clear hB1)
  go_upto_region 3 with fail
  obtain ⟨SP, hSP⟩ : ∃ SP, SP = w1.heap.size := ⟨_, rfl⟩
  rw [← hSP]
  obtain ⟨w2, hw2⟩ : ∃ w2, w2 = (w1.alloc (.cells #[Value.int IntKind.i64 (slots j), Value.int IntKind.i64 (slots j), Value.int IntKind.i64 (slots j), Value.float FloatKind.f64 INF] 134)).alloc
      (.cells #[Value.int IntKind.i64 0, Value.int IntKind.i64 0, Value.int IntKind.i64 0, Value.int IntKind.i64 0,
          Value.float FloatKind.f64 0, Value.float FloatKind.f64 0, Value.float FloatKind.f64 0,
          Value.float FloatKind.f64 0, Value.float FloatKind.f64 0, Value.float FloatKind.f64 0,
          Value.float FloatKind.f64 0, Value.float FloatKind.f64 0, Value.pointer none] 137) := ⟨_, rfl⟩
  rw [← hw2]
  have C2 : Chg S0 w w2 := by rw [hw2]; exact ((Chg.of_below HB1.out).alloc _).alloc _
  have HSP : Hid (w.heap.size ≤ SP ∧ SP + 2 = w2.heap.size) := by
    refine ⟨?_, ?_⟩
    · rw [hSP]; exact HB1.out.size
    · rw [hw2, hSP]; simp
  have hs0 : w2.heap[SP]? = some (.cells #[Value.int IntKind.i64 (slots j), Value.int IntKind.i64 (slots j), Value.int IntKind.i64 (slots j), Value.float FloatKind.f64 INF] 134) := by
    rw [hw2, Below.heap_alloc _ _ _ (by simp [hSP]), hSP]; exact heap_alloc_new _ _
  have s0 : w2.cell? ⟨SP, 0, none⟩ = some (.int .i64 (slots j)) := by rw [cell_of_row _ _ _ _ _ _ hs0]; rfl
  have s1 : w2.cell? ⟨SP, 1, none⟩ = some (.int .i64 (slots j)) := by rw [cell_of_row _ _ _ _ _ _ hs0]; rfl
  have s2 : w2.cell? ⟨SP, 2, none⟩ = some (.int .i64 (slots j)) := by rw [cell_of_row _ _ _ _ _ _ hs0]; rfl
  have s3 : w2.cell? ⟨SP, 3, none⟩ = some (.float .f64 INF) := by rw [cell_of_row _ _ _ _ _ _ hs0]; rfl
  have hs1 : w2.heap[SP + 1]? = some (.cells #[Value.int IntKind.i64 0, Value.int IntKind.i64 0, Value.int IntKind.i64 0, Value.int IntKind.i64 0,
          Value.float FloatKind.f64 0, Value.float FloatKind.f64 0, Value.float FloatKind.f64 0,
          Value.float FloatKind.f64 0, Value.float FloatKind.f64 0, Value.float FloatKind.f64 0,
          Value.float FloatKind.f64 0, Value.float FloatKind.f64 0, Value.pointer none] 137) := by
    rw [hw2, hSP]
    have := heap_alloc_new (w1.alloc (.cells #[Value.int IntKind.i64 (slots j), Value.int IntKind.i64 (slots j), Value.int IntKind.i64 (slots j), Value.float FloatKind.f64 INF] 134)) (.cells #[Value.int IntKind.i64 0, Value.int IntKind.i64 0, Value.int IntKind.i64 0, Value.int IntKind.i64 0, Value.float FloatKind.f64 0, Value.float FloatKind.f64 0, Value.float FloatKind.f64 0, Value.float FloatKind.f64 0, Value.float FloatKind.f64 0, Value.float FloatKind.f64 0, Value.float FloatKind.f64 0, Value.float FloatKind.f64 0, Value.pointer none] 137)
    rwa [World.size_alloc] at this
  have HBD : Hid (Bd w2 (SP + 1)) := fun t v ht => by rw [cell_of_row _ _ _ _ _ _ hs1]; exact ht
  have HSC : Hid (w2.cell? ⟨SP, 0, none⟩ = some (.int .i64 (slots j)) ∧ w2.cell? ⟨SP, 1, none⟩ = some (.int .i64 (slots j)) ∧ w2.cell? ⟨SP, 2, none⟩ = some (.int .i64 (slots j)) ∧ w2.cell? ⟨SP, 3, none⟩ = some (.float .f64 INF)) := ⟨s0, s1, s2, s3⟩
  have HC2 : Hid (Chg S0 w w2) := C2
  have e2 := C2.keep c2 (fun e => e)
  have e3 := C2.keep c3 (fun e => e)
  have e4 := C2.keep hqn (fun e => e)
  have e6 := C2.keep hqm (fun e => e)
  have ej := C2.keep j4 (fun e => e)
  have e7 := C2.keep hq7 (fun e => e)
  have esp := C2.keep hspb (fun e => e)
  have g4 := (C2.froz qb (qo + 4) hqw).trans f4
  have g6 := (C2.froz qb (qo + 6) hqw).trans f6
  clear C2 hw2 hSP hs0 hs1 s0 s1 s2 s3 c2 c3 hqn hqm j4 j8 j18 f4 f6
  go_upto_region 10 with fail
  obtain ⟨w3, hw3⟩ : ∃ w3, w3 = (w2.setCell ⟨qb, qo + 4, none⟩ (.int .i64 (n + 1))).setCell ⟨qb, qo + 6, none⟩ (.int .i64 (wrap64 (mv + 1))) := ⟨_, rfl⟩
  rw [← hw3]
  have HC3 : Hid (Chg (fun x t => x = qb ∧ (t = qo + 4 ∨ t = qo + 6)) w w3) := by
    show Chg _ _ _
    rw [hw3]
    exact ((HC2.out.mono (fun _ _ _ e => False.elim e)).set qb (qo + 4) _ (fun _ => ⟨rfl, Or.inl rfl⟩)).set qb (qo + 6) _ (fun _ => ⟨rfl, Or.inr rfl⟩)
  have hz3 : w3.heap.size = SP + 2 := by rw [hw3, HSP.out.2]; simp
  have HX4 : Hid (w3.cell? ⟨qb, qo + 4, none⟩ = some (.int .i64 (n + 1)) ∧ I64 w3 qb (qo + 6)) := by
    rw [hw3]
    exact ⟨by rw [cell_ne _ _ _ _ _ (by omega)]; exact World.cell?_setCell_same _ _ _ e4, _, World.cell?_setCell_same _ _ _ (by rw [cell_ne _ _ _ _ _ (by omega)]; exact e6)⟩
  have hqSP : SP ≠ qb ∧ SP + 1 ≠ qb := by have := HSP.out.1; omega
  have k23 : ∀ b t v, b ≠ qb → w2.cell? ⟨b, t, none⟩ = some v → w3.cell? ⟨b, t, none⟩ = some v := fun b t v hb hc => by
    rw [hw3, World.cell?_setCell_other _ _ _ _ (by intro e; cases e; exact hb rfl), World.cell?_setCell_other _ _ _ _ (by intro e; cases e; exact hb rfl)]; exact hc
  have HSC3 : Hid (w3.cell? ⟨SP, 0, none⟩ = some (.int .i64 (slots j)) ∧ w3.cell? ⟨SP, 1, none⟩ = some (.int .i64 (slots j)) ∧ w3.cell? ⟨SP, 2, none⟩ = some (.int .i64 (slots j)) ∧ w3.cell? ⟨SP, 3, none⟩ = some (.float .f64 INF) ∧ Bd w3 (SP + 1)) := by
    obtain ⟨s0, s1, s2, s3⟩ := HSC.out
    exact ⟨k23 _ _ _ hqSP.1 s0, k23 _ _ _ hqSP.1 s1, k23 _ _ _ hqSP.1 s2, k23 _ _ _ hqSP.1 s3, fun t v ht => k23 _ _ _ hqSP.2 (HBD.out t v ht)⟩
  have x7 : w3.cell? ⟨qb, qo + 7, none⟩ = some (.pointer (some ⟨spb, 0, none⟩)) := HC3.out.keep hq7 (fun e => by have := e.2; omega)
  have xs := k23 _ _ _ hsq esp
  clear hw3 e2 e3 e4 e6 ej g4 g6 e7 esp k23 hq7 hspb
  go_upto_region 11 with (go_at_call 34; refine (leaf34 spb _ xs).mono ?_; rintro e w4 ⟨ja, sa, rfl, hrow, hAj, hAs, l1, l2, l3, l4, l5, hB4⟩; have HROW : Hid (w4.heap[w3.heap.size + 2]? = some (.cells (newT ja sa) 142 (0, 0))) := hrow; have HAJ : Hid (Arr w4 ja 23 1 0 17 []) := hAj; have HAS : Hid (Arr w4 sa 134 4 0 17 []) := hAs; have HLT : Hid (w3.heap.size ≤ ja ∧ ja < w3.heap.size + 2 ∧ w3.heap.size ≤ sa ∧ sa < w3.heap.size + 2 ∧ ja ≠ sa) := ⟨l1, l2, l3, l4, l5⟩; have HB4 : Hid (Below w3.heap.size w3 w4) := hB4; clear hrow hAj hAs l1 l2 l3 l4 l5 hB4)
  obtain ⟨b, hb⟩ : ∃ b, b = SP + 2 + 2 := ⟨_, rfl⟩
  rw [← hb]
  have HBN : Hid (w.heap.size ≤ SP ∧ b = SP + 4 ∧ SP + 2 ≤ ja ∧ ja < SP + 4 ∧ SP + 2 ≤ sa ∧ sa < SP + 4 ∧ ja ≠ sa) := by
    obtain ⟨h1, h2, h3, h4, h5⟩ := HLT.out
    have := HSP.out.1
    exact ⟨this, hb, by omega, by omega, by omega, by omega, h5⟩
  have hrow : w4.heap[b]? = some (.cells (newT ja sa) 142 (0, 0)) := by have := HROW.out; rwa [hz3, ← hb] at this
  have hcell : ∀ t v, (newT ja sa)[t]? = some v → w4.cell? ⟨b, t, none⟩ = some v := fun t v ht => by rw [cell_of_row _ _ _ _ _ _ hrow]; exact ht
  have HCE : Hid (∀ t v, (newT ja sa)[t]? = some v → w4.cell? ⟨b, t, none⟩ = some v) := hcell
  have HPB : Hid (Plain w4 b 142) := ⟨_, hrow⟩
  have HC4 : Hid (Chg (fun x t => x = qb ∧ (t = qo + 4 ∨ t = qo + 6)) w w4) := HC3.out.below HB4.out
  have C34 : Chg S0 w3 w4 := Chg.of_below HB4.out
  have HC34 : Hid (Chg S0 w3 w4) := C34
  have hs1 : ∀ W : World, Chg (fun y _ => y = b ∨ y = ja ∨ y = sa) w4 W → (fun w' : World => w'.cell? ⟨SP, 0, none⟩ = some (.int .i64 (slots j)) ∧ w'.cell? ⟨SP, 1, none⟩ = some (.int .i64 (slots j)) ∧ w'.cell? ⟨SP, 2, none⟩ = some (.int .i64 (slots j)) ∧ w'.cell? ⟨SP, 3, none⟩ = some (.float .f64 INF) ∧ w'.cell? ⟨j, 8, none⟩ = some (.int .i64 (slots j)) ∧ w'.cell? ⟨SP + 1, 0, none⟩ = some (.int .i64 0) ∧ w'.cell? ⟨SP + 1, 1, none⟩ = some (.int .i64 0) ∧ w'.cell? ⟨SP + 1, 2, none⟩ = some (.int .i64 0) ∧ w'.cell? ⟨SP + 1, 3, none⟩ = some (.int .i64 0) ∧ w'.cell? ⟨SP + 1, 4, none⟩ = some (.float .f64 0) ∧ w'.cell? ⟨SP + 1, 5, none⟩ = some (.float .f64 0) ∧ w'.cell? ⟨SP + 1, 6, none⟩ = some (.float .f64 0) ∧ w'.cell? ⟨SP + 1, 7, none⟩ = some (.float .f64 0) ∧ w'.cell? ⟨SP + 1, 8, none⟩ = some (.float .f64 0) ∧ w'.cell? ⟨SP + 1, 9, none⟩ = some (.float .f64 0) ∧ w'.cell? ⟨SP + 1, 10, none⟩ = some (.float .f64 0) ∧ w'.cell? ⟨SP + 1, 11, none⟩ = some (.float .f64 0) ∧ w'.cell? ⟨SP + 1, 12, none⟩ = some (.pointer none)) W := fun W hW => by
    obtain ⟨s0, s1, s2, s3, bd⟩ := HSC3.out
    obtain ⟨n1, n2, n3, n4, n5, n6, n7⟩ := HBN.out
    have kS : ∀ t v, w3.cell? ⟨SP, t, none⟩ = some v → W.cell? ⟨SP, t, none⟩ = some v := fun t v hc => hW.keep (HC34.out.keep hc (fun e => e)) (fun e => by rcases e with e | e | e <;> omega)
    have kB : ∀ t v, w3.cell? ⟨SP + 1, t, none⟩ = some v → W.cell? ⟨SP + 1, t, none⟩ = some v := fun t v hc => hW.keep (HC34.out.keep hc (fun e => e)) (fun e => by rcases e with e | e | e <;> omega)
    have kj : W.cell? ⟨j, 8, none⟩ = some (.int .i64 (slots j)) := hW.keep (HC4.out.keep HJ.out.c8 (fun e => hjq e.1)) (fun e => by rcases e with e | e | e <;> omega)
    exact ⟨kS _ _ s0, kS _ _ s1, kS _ _ s2, kS _ _ s3, kj, kB 0 _ (bd 0 _ rfl), kB 1 _ (bd 1 _ rfl), kB 2 _ (bd 2 _ rfl), kB 3 _ (bd 3 _ rfl), kB 4 _ (bd 4 _ rfl), kB 5 _ (bd 5 _ rfl), kB 6 _ (bd 6 _ rfl), kB 7 _ (bd 7 _ rfl), kB 8 _ (bd 8 _ rfl), kB 9 _ (bd 9 _ rfl), kB 10 _ (bd 10 _ rfl), kB 11 _ (bd 11 _ rfl), kB 12 _ (bd 12 _ rfl)⟩
  have HS1 : Hid (∀ W : World, Chg (fun y _ => y = b ∨ y = ja ∨ y = sa) w4 W → (fun w' : World => w'.cell? ⟨SP, 0, none⟩ = some (.int .i64 (slots j)) ∧ w'.cell? ⟨SP, 1, none⟩ = some (.int .i64 (slots j)) ∧ w'.cell? ⟨SP, 2, none⟩ = some (.int .i64 (slots j)) ∧ w'.cell? ⟨SP, 3, none⟩ = some (.float .f64 INF) ∧ w'.cell? ⟨j, 8, none⟩ = some (.int .i64 (slots j)) ∧ w'.cell? ⟨SP + 1, 0, none⟩ = some (.int .i64 0) ∧ w'.cell? ⟨SP + 1, 1, none⟩ = some (.int .i64 0) ∧ w'.cell? ⟨SP + 1, 2, none⟩ = some (.int .i64 0) ∧ w'.cell? ⟨SP + 1, 3, none⟩ = some (.int .i64 0) ∧ w'.cell? ⟨SP + 1, 4, none⟩ = some (.float .f64 0) ∧ w'.cell? ⟨SP + 1, 5, none⟩ = some (.float .f64 0) ∧ w'.cell? ⟨SP + 1, 6, none⟩ = some (.float .f64 0) ∧ w'.cell? ⟨SP + 1, 7, none⟩ = some (.float .f64 0) ∧ w'.cell? ⟨SP + 1, 8, none⟩ = some (.float .f64 0) ∧ w'.cell? ⟨SP + 1, 9, none⟩ = some (.float .f64 0) ∧ w'.cell? ⟨SP + 1, 10, none⟩ = some (.float .f64 0) ∧ w'.cell? ⟨SP + 1, 11, none⟩ = some (.float .f64 0) ∧ w'.cell? ⟨SP + 1, 12, none⟩ = some (.pointer none)) W) := hs1
  have hss : ∀ W : World, Chg (fun y _ => y = ja ∨ y = sa) w4 W → (fun w' : World => w'.cell? ⟨b, 2, none⟩ = some (.slice (some ⟨ja, 0, none⟩) 0 17) ∧ w'.cell? ⟨b, 3, none⟩ = some (.slice (some ⟨sa, 0, none⟩) 0 17)) W := fun W hW => by
    obtain ⟨n1, n2, n3, n4, n5, n6, n7⟩ := HBN.out
    exact ⟨hW.keep (hcell 2 _ rfl) (fun e => by rcases e with e | e <;> omega), hW.keep (hcell 3 _ rfl) (fun e => by rcases e with e | e <;> omega)⟩
  have HSS : Hid (∀ W : World, Chg (fun y _ => y = ja ∨ y = sa) w4 W → (fun w' : World => w'.cell? ⟨b, 2, none⟩ = some (.slice (some ⟨ja, 0, none⟩) 0 17) ∧ w'.cell? ⟨b, 3, none⟩ = some (.slice (some ⟨sa, 0, none⟩) 0 17)) W) := hss
  have up3 : ∀ W : World, Chg (fun y _ => y = ja ∨ y = sa) w4 W → Chg (fun y _ => y = b ∨ y = ja ∨ y = sa) w4 W := fun W hW => hW.mono (fun y t _ e => Or.inr e)
  have UP3 : Hid (∀ W : World, Chg (fun y _ => y = ja ∨ y = sa) w4 W → Chg (fun y _ => y = b ∨ y = ja ∨ y = sa) w4 W) := up3
  obtain ⟨i0, hi0, hz0, hzs, hzb⟩ := info_parts binfo23
  obtain ⟨i4, hi4, hz04, hzs4, hzb4⟩ := info_parts binfo134
  have hjs4 : ja < w4.heap.size ∧ sa < w4.heap.size := ⟨HAJ.out.lt, HAS.out.lt⟩
  have hjas : ja ≠ sa := HBN.out.2.2.2.2.2.2
  -- the first append
  have hap1 : ∀ (W : World) (vb : Nat), Chg (fun y _ => y = ja ∨ y = sa) w4 W → Arr W ja 23 1 0 17 [] → Arr W vb 23 1 1 1 [ptr j] → ∀ W', W.setCells ja (0 + 0 * 1) [ptr j] = W' → Chg (fun y _ => y = ja ∨ y = sa) w4 W' ∧ Arr W' ja 23 1 1 17 [ptr j] ∧ Chg (fun y _ => y = ja) W W' := fun W vb hW hA hV W' e => by
    subst e
    have c : Chg (fun y _ => y = ja) W (W.setCells ja (0 + 0 * 1) [ptr j]) := Chg.setCells ja _ _ _ (Chg.refl _ W) (fun _ _ _ => rfl)
    exact ⟨hW.trans c (fun y t _ e => Or.inl e), hA.push (by rfl) (by omega) (by intro v hv; simp at hv; rw [hv]; rfl), c⟩
  have hap2 : ∀ (W : World), Chg (fun y _ => y = ja ∨ y = sa) w4 W → Arr W sa 134 4 0 17 [] → ∀ W', W.setCells sa (0 + 0 * 4) [.int .i64 (slots j), .int .i64 (slots j), .int .i64 (slots j), .float .f64 INF] = W' → Chg (fun y _ => y = ja ∨ y = sa) w4 W' ∧ Arr W' sa 134 4 1 17 [.int .i64 (slots j), .int .i64 (slots j), .int .i64 (slots j), .float .f64 INF] ∧ Chg (fun y _ => y = sa) W W' := fun W hW hA W' e => by
    subst e
    have c : Chg (fun y _ => y = sa) W (W.setCells sa (0 + 0 * 4) [.int .i64 (slots j), .int .i64 (slots j), .int .i64 (slots j), .float .f64 INF]) := Chg.setCells sa _ _ _ (Chg.refl _ W) (fun _ _ _ => rfl)
    exact ⟨hW.trans c (fun y t _ e => Or.inr e), hA.push (by rfl) (by omega) (by simp [Value.oneCell']), c⟩
  have HAP1 : Hid (∀ (W : World) (vb : Nat), Chg (fun y _ => y = ja ∨ y = sa) w4 W → Arr W ja 23 1 0 17 [] → Arr W vb 23 1 1 1 [ptr j] → ∀ W', W.setCells ja (0 + 0 * 1) [ptr j] = W' → Chg (fun y _ => y = ja ∨ y = sa) w4 W' ∧ Arr W' ja 23 1 1 17 [ptr j] ∧ Chg (fun y _ => y = ja) W W') := hap1
  have HAP2 : Hid (∀ (W : World), Chg (fun y _ => y = ja ∨ y = sa) w4 W → Arr W sa 134 4 0 17 [] → ∀ W', W.setCells sa (0 + 0 * 4) [.int .i64 (slots j), .int .i64 (slots j), .int .i64 (slots j), .float .f64 INF] = W' → Chg (fun y _ => y = ja ∨ y = sa) w4 W' ∧ Arr W' sa 134 4 1 17 [.int .i64 (slots j), .int .i64 (slots j), .int .i64 (slots j), .float .f64 INF] ∧ Chg (fun y _ => y = sa) W W') := hap2
  have HFIN : Hid (∀ w9 : World, Chg (fun y _ => y = ja ∨ y = sa) w4 w9 → Arr w9 ja 23 1 1 17 [ptr j] → Arr w9 sa 134 4 1 17 [.int .i64 (slots j), .int .i64 (slots j), .int .i64 (slots j), .float .f64 INF] → Chg (fun y _ => y = b ∨ y = ja ∨ y = sa) w4 (fillW w9 b ja sa j (slots j)) ∧ LeafAt (fillW w9 b ja sa j (slots j)) none j ja sa [j] b) := fun w9 h1 h2 h3 => fill_leaf HPB.out HCE.out h1 (by have := HBN.out; omega) (by have := HBN.out; omega) h2 h3
  clear hs1 hss up3 hap1 hap2 hb hrow hcell xs x7 C34
  go_cut [] from 55 to 93 (fun wx => Chg (fun y _ => y = b ∨ y = ja ∨ y = sa) w4 wx ∧ LeafAt wx none j ja sa [j] b)
  case first =>
    refine wp_region_T [0, 1, 2, 3, 4, 5, 6, 7, 8, 10, 13, 14, 15, 17, 20, 21, 22, 23, 24, 25, 26, 27, 28, 29, 30, 31, 32, 33, 34, 35, 36, 37, 38, 39, 40, 41, 42, 43, 44] (fun w' : World => w'.cell? ⟨b, 2, none⟩ = some (.slice (some ⟨ja, 0, none⟩) 0 17) ∧ w'.cell? ⟨b, 3, none⟩ = some (.slice (some ⟨sa, 0, none⟩) 0 17)) (fun w' : World => w'.cell? ⟨SP, 0, none⟩ = some (.int .i64 (slots j)) ∧ w'.cell? ⟨SP, 1, none⟩ = some (.int .i64 (slots j)) ∧ w'.cell? ⟨SP, 2, none⟩ = some (.int .i64 (slots j)) ∧ w'.cell? ⟨SP, 3, none⟩ = some (.float .f64 INF) ∧ w'.cell? ⟨j, 8, none⟩ = some (.int .i64 (slots j)) ∧ w'.cell? ⟨SP + 1, 0, none⟩ = some (.int .i64 0) ∧ w'.cell? ⟨SP + 1, 1, none⟩ = some (.int .i64 0) ∧ w'.cell? ⟨SP + 1, 2, none⟩ = some (.int .i64 0) ∧ w'.cell? ⟨SP + 1, 3, none⟩ = some (.int .i64 0) ∧ w'.cell? ⟨SP + 1, 4, none⟩ = some (.float .f64 0) ∧ w'.cell? ⟨SP + 1, 5, none⟩ = some (.float .f64 0) ∧ w'.cell? ⟨SP + 1, 6, none⟩ = some (.float .f64 0) ∧ w'.cell? ⟨SP + 1, 7, none⟩ = some (.float .f64 0) ∧ w'.cell? ⟨SP + 1, 8, none⟩ = some (.float .f64 0) ∧ w'.cell? ⟨SP + 1, 9, none⟩ = some (.float .f64 0) ∧ w'.cell? ⟨SP + 1, 10, none⟩ = some (.float .f64 0) ∧ w'.cell? ⟨SP + 1, 11, none⟩ = some (.float .f64 0) ∧ w'.cell? ⟨SP + 1, 12, none⟩ = some (.pointer none)) (by kernel_rfl) ?_
    have hS0 : (fun w' : World => w'.cell? ⟨b, 2, none⟩ = some (.slice (some ⟨ja, 0, none⟩) 0 17) ∧ w'.cell? ⟨b, 3, none⟩ = some (.slice (some ⟨sa, 0, none⟩) 0 17)) w4.drew := HSS.out _ ((Chg.refl _ w4).drew)
    have hS1 : (fun w' : World => w'.cell? ⟨SP, 0, none⟩ = some (.int .i64 (slots j)) ∧ w'.cell? ⟨SP, 1, none⟩ = some (.int .i64 (slots j)) ∧ w'.cell? ⟨SP, 2, none⟩ = some (.int .i64 (slots j)) ∧ w'.cell? ⟨SP, 3, none⟩ = some (.float .f64 INF) ∧ w'.cell? ⟨j, 8, none⟩ = some (.int .i64 (slots j)) ∧ w'.cell? ⟨SP + 1, 0, none⟩ = some (.int .i64 0) ∧ w'.cell? ⟨SP + 1, 1, none⟩ = some (.int .i64 0) ∧ w'.cell? ⟨SP + 1, 2, none⟩ = some (.int .i64 0) ∧ w'.cell? ⟨SP + 1, 3, none⟩ = some (.int .i64 0) ∧ w'.cell? ⟨SP + 1, 4, none⟩ = some (.float .f64 0) ∧ w'.cell? ⟨SP + 1, 5, none⟩ = some (.float .f64 0) ∧ w'.cell? ⟨SP + 1, 6, none⟩ = some (.float .f64 0) ∧ w'.cell? ⟨SP + 1, 7, none⟩ = some (.float .f64 0) ∧ w'.cell? ⟨SP + 1, 8, none⟩ = some (.float .f64 0) ∧ w'.cell? ⟨SP + 1, 9, none⟩ = some (.float .f64 0) ∧ w'.cell? ⟨SP + 1, 10, none⟩ = some (.float .f64 0) ∧ w'.cell? ⟨SP + 1, 11, none⟩ = some (.float .f64 0) ∧ w'.cell? ⟨SP + 1, 12, none⟩ = some (.pointer none)) w4.drew := HS1.out _ ((Chg.refl _ w4).drew)
    refine wpAnyT_take1 (i := 0) (v := ?_) (by kernel_rfl) rfl (fun _ _ _ h => h) (Or.inl ⟨by rfl, ?_⟩) (by assumption) ?_
    rotate_left
    · (intro w hSw; (try dsimp only at hSw); go_simp; try (with_reducible rfl))
    simp only [Act.put, List.setIfInBounds_toArray, List.set_cons_zero, List.set_cons_succ]
    refine wpAnyT_take1 (i := 1) (v := ?_) (by kernel_rfl) rfl (fun _ _ _ h => h) (Or.inl ⟨by rfl, ?_⟩) (by assumption) ?_
    rotate_left
    · (intro w hSw; (try dsimp only at hSw); go_simp; try (with_reducible rfl))
    simp only [Act.put, List.setIfInBounds_toArray, List.set_cons_zero, List.set_cons_succ]
    refine wpAnyT_take1 (i := 2) (v := ?_) (by kernel_rfl) rfl (fun _ _ _ h => h) (Or.inl ⟨by rfl, ?_⟩) (by assumption) ?_
    rotate_left
    · (intro w hSw; (try dsimp only at hSw); go_simp; try (with_reducible rfl))
    simp only [Act.put, List.setIfInBounds_toArray, List.set_cons_zero, List.set_cons_succ]
    refine wpAnyT_take1 (i := 3) (v := ?_) (by kernel_rfl) rfl (fun _ _ _ h => h) (Or.inl ⟨by rfl, ?_⟩) (by assumption) ?_
    rotate_left
    · (intro w hSw; (try dsimp only at hSw); go_simp; try (with_reducible rfl))
    simp only [Act.put, List.setIfInBounds_toArray, List.set_cons_zero, List.set_cons_succ]
    refine wpAnyT_take1 (i := 4) (v := ?_) (by kernel_rfl) rfl (fun _ _ _ h => h) (Or.inl ⟨by rfl, ?_⟩) (by assumption) ?_
    rotate_left
    · (intro w hSw; (try dsimp only at hSw); go_simp; try (with_reducible rfl))
    simp only [Act.put, List.setIfInBounds_toArray, List.set_cons_zero, List.set_cons_succ]
    refine wpAnyT_take1 (i := 5) (v := ?_) (by kernel_rfl) rfl (fun _ _ _ h => h) (Or.inl ⟨by rfl, ?_⟩) (by assumption) ?_
    rotate_left
    · (intro w hSw; (try dsimp only at hSw); go_simp; try (with_reducible rfl))
    simp only [Act.put, List.setIfInBounds_toArray, List.set_cons_zero, List.set_cons_succ]
    refine wpAnyT_take1 (i := 6) (v := ?_) (by kernel_rfl) rfl (fun _ _ _ h => h) (Or.inl ⟨by rfl, ?_⟩) (by assumption) ?_
    rotate_left
    · (intro w hSw; (try dsimp only at hSw); go_simp; try (with_reducible rfl))
    simp only [Act.put, List.setIfInBounds_toArray, List.set_cons_zero, List.set_cons_succ]
    refine wpAnyT_take1 (i := 10) (v := ?_) (by kernel_rfl) rfl (fun _ _ _ h => h) (Or.inl ⟨by rfl, ?_⟩) (by assumption) ?_
    rotate_left
    · (intro w hSw; (try dsimp only at hSw); go_simp; try (with_reducible rfl))
    simp only [Act.put, List.setIfInBounds_toArray, List.set_cons_zero, List.set_cons_succ]
    refine wpAnyT_take1 (i := 13) (v := ?_) (by kernel_rfl) rfl (fun _ _ _ h => h) (Or.inl ⟨by rfl, ?_⟩) (by assumption) ?_
    rotate_left
    · (intro w hSw; (try dsimp only at hSw); go_simp; try (with_reducible rfl))
    simp only [Act.put, List.setIfInBounds_toArray, List.set_cons_zero, List.set_cons_succ]
    refine wpAnyT_take1 (i := 17) (v := ?_) (by kernel_rfl) rfl (fun _ _ _ h => h) (Or.inl ⟨by rfl, ?_⟩) (by assumption) ?_
    rotate_left
    · (intro w hSw; (try dsimp only at hSw); go_simp; try (with_reducible rfl))
    simp only [Act.put, List.setIfInBounds_toArray, List.set_cons_zero, List.set_cons_succ]
    refine wpAnyT_take1 (i := 20) (v := ?_) (by kernel_rfl) rfl (fun _ _ _ h => h) (Or.inl ⟨by rfl, ?_⟩) (by assumption) ?_
    rotate_left
    · (intro w hSw; (try dsimp only at hSw); go_simp; try (with_reducible rfl))
    simp only [Act.put, List.setIfInBounds_toArray, List.set_cons_zero, List.set_cons_succ]
    refine wpAnyT_take1 (i := 21) (v := ?_) (by kernel_rfl) rfl (fun _ _ _ h => h) (Or.inl ⟨by rfl, ?_⟩) (by assumption) ?_
    rotate_left
    · (intro w hSw; (try dsimp only at hSw); go_simp; try (with_reducible rfl))
    simp only [Act.put, List.setIfInBounds_toArray, List.set_cons_zero, List.set_cons_succ]
    refine wpAnyT_take1 (i := 22) (v := ?_) (by kernel_rfl) rfl (fun _ _ _ h => h) (Or.inl ⟨by rfl, ?_⟩) (by assumption) ?_
    rotate_left
    · (intro w hSw; (try dsimp only at hSw); go_simp; try (with_reducible rfl))
    simp only [Act.put, List.setIfInBounds_toArray, List.set_cons_zero, List.set_cons_succ]
    refine wpAnyT_take1 (i := 26) (v := ?_) (by kernel_rfl) rfl (fun _ _ _ h => h) (Or.inl ⟨by rfl, ?_⟩) (by assumption) ?_
    rotate_left
    · (intro w hSw; (try dsimp only at hSw); go_simp; try (with_reducible rfl))
    simp only [Act.put, List.setIfInBounds_toArray, List.set_cons_zero, List.set_cons_succ]
    refine wpAnyT_take1 (i := 7) (v := ?_) (by kernel_rfl) rfl (fun _ _ _ h => h) (Or.inl ⟨by rfl, ?_⟩) (by assumption) ?_
    rotate_left
    · (intro w hSw; (try dsimp only at hSw); go_simp; try (with_reducible rfl))
    simp only [Act.put, List.setIfInBounds_toArray, List.set_cons_zero, List.set_cons_succ]
    refine wpAnyT_take1 (i := 8) (v := ?_) (by kernel_rfl) rfl (fun _ _ _ h => h) (Or.inl ⟨by rfl, ?_⟩) (by assumption) ?_
    rotate_left
    · (intro w hSw; (try dsimp only at hSw); go_simp; try (with_reducible rfl))
    simp only [Act.put, List.setIfInBounds_toArray, List.set_cons_zero, List.set_cons_succ]
    refine wpAnyT_take1 (i := 14) (v := ?_) (by kernel_rfl) rfl (fun _ _ _ h => h) (Or.inl ⟨by rfl, ?_⟩) (by assumption) ?_
    rotate_left
    · (intro w hSw; (try dsimp only at hSw); go_simp; try (with_reducible rfl))
    simp only [Act.put, List.setIfInBounds_toArray, List.set_cons_zero, List.set_cons_succ]
    refine wpAnyT_take1 (i := 15) (v := ?_) (by kernel_rfl) rfl (fun _ _ _ h => h) (Or.inl ⟨by rfl, ?_⟩) (by assumption) ?_
    rotate_left
    · (intro w hSw; (try dsimp only at hSw); go_simp; try (with_reducible rfl))
    simp only [Act.put, List.setIfInBounds_toArray, List.set_cons_zero, List.set_cons_succ]
    refine wpAnyT_take1 (i := 23) (v := ?_) (by kernel_rfl) rfl (fun _ _ _ h => h) (Or.inl ⟨by rfl, ?_⟩) (by assumption) ?_
    rotate_left
    · (intro w hSw; (try dsimp only at hSw); go_simp; try (with_reducible rfl))
    simp only [Act.put, List.setIfInBounds_toArray, List.set_cons_zero, List.set_cons_succ]
    refine wpAnyT_take1 (i := 24) (v := ?_) (by kernel_rfl) rfl (fun _ _ _ h => h) (Or.inl ⟨by rfl, ?_⟩) (by assumption) ?_
    rotate_left
    · (intro w hSw; (try dsimp only at hSw); go_simp; try (with_reducible rfl))
    simp only [Act.put, List.setIfInBounds_toArray, List.set_cons_zero, List.set_cons_succ]
    refine wpAnyT_take1 (i := 25) (v := ?_) (by kernel_rfl) rfl (fun _ _ _ h => h) (Or.inl ⟨by rfl, ?_⟩) (by assumption) ?_
    rotate_left
    · (intro w hSw; (try dsimp only at hSw); go_simp; try (with_reducible rfl))
    simp only [Act.put, List.setIfInBounds_toArray, List.set_cons_zero, List.set_cons_succ]
    refine wpAnyT_take (i := 9) (v := ?_) (by kernel_rfl) rfl (fun _ _ _ h => h) (Or.inl ⟨by rfl, ?_⟩) (by assumption) (by assumption) ?_
    rotate_left
    · (intro w hSw; (try dsimp only at hSw); go_simp; try (with_reducible rfl))
    simp only [Act.put, List.setIfInBounds_toArray, List.set_cons_zero, List.set_cons_succ]
    refine wpAnyT_take (i := 16) (v := ?_) (by kernel_rfl) rfl (fun _ _ _ h => h) (Or.inl ⟨by rfl, ?_⟩) (by assumption) (by assumption) ?_
    rotate_left
    · (intro w hSw; (try dsimp only at hSw); go_simp; try (with_reducible rfl))
    simp only [Act.put, List.setIfInBounds_toArray, List.set_cons_zero, List.set_cons_succ]
    clear hS0 hS1
    refine wpAnyT_two (i := 11) (k := 18) (by kernel_rfl) rfl rfl (by rfl) (by rfl) (fun K hK => ?_) (fun K hK => ?_)
    · go_simp
      refine hK.out _ _ ⟨⟨fun _ => HSS.out _ (((Chg.refl _ w4).alloc _).drew), HS1.out _ (UP3.out _ (((Chg.refl _ w4).alloc _).drew))⟩, ?_⟩
      try simp only [Act.put, List.setIfInBounds_toArray, List.set_cons_zero, List.set_cons_succ]
      clear hK K
      refine wpAnyT_two (i := 12) (k := 18) (by kernel_rfl) rfl rfl (by rfl) (by rfl) (fun K hK => ?_) (fun K hK => ?_)
      · refine wp_append_room rfl (.tmp 64) (.tmp 66) 47 rfl 23 i0 1 Ybaz.underlying47 hi0 hzs ja 0 0 17 rfl ⟨w4.heap.size, 0, none⟩ 1 1 [ptr j] rfl rfl (fun t u ht => by rw [Addr.add_lit, Nat.zero_add]; exact ((Arr.one1 w4 23 (ptr j) rfl).next ((Chg.refl S0 _).drew) (fun _ e => e)).cell t u ht) (by intro v hv; simp at hv; rw [hv]; rfl) (by omega) (fun t ht => ⟨(HAJ.out.next (((Chg.refl S0 w4).alloc _).drew) (fun _ e => e)).room _ (by simp at ht; omega), (HAJ.out.next (((Chg.refl S0 w4).alloc _).drew) (fun _ e => e)).free _⟩) ?_
        generalize hw7 : World.setCells _ _ _ _ = w7
        obtain ⟨c7, a7, d7⟩ := HAP1.out _ _ (((Chg.refl _ w4).alloc _).drew) (HAJ.out.next (((Chg.refl S0 w4).alloc _).drew) (fun _ e => e)) ((Arr.one1 w4 23 (ptr j) rfl).next ((Chg.refl S0 _).drew) (fun _ e => e)) _ hw7
        have HC7 : Hid (Chg (fun y _ => y = ja ∨ y = sa) w4 w7) := c7
        have HA7 : Hid (Arr w7 ja 23 1 1 17 [ptr j]) := a7
        have HD7 : Hid (Chg (fun y _ => y = ja) _ w7) := d7
        clear hw7 c7 a7 d7
        refine hK.out _ _ ⟨⟨fun _ => HSS.out _ HC7.out, HS1.out _ (UP3.out _ HC7.out)⟩, ?_⟩
        try simp only [Act.put, List.setIfInBounds_toArray, List.set_cons_zero, List.set_cons_succ]
        clear hK K
        refine wpAnyT_one (i := 18) (by kernel_rfl) rfl (by rfl) (fun K hK => ?_)
        go_simp
        refine hK.out _ _ ⟨⟨fun _ => HSS.out _ (HC7.out.alloc _), HS1.out _ (UP3.out _ (HC7.out.alloc _))⟩, ?_⟩
        try simp only [Act.put, List.setIfInBounds_toArray, List.set_cons_zero, List.set_cons_succ]
        clear hK K
        refine wpAnyT_one (i := 19) (by kernel_rfl) rfl (by rfl) (fun K hK => ?_)
        refine wp_append_room rfl (.tmp 71) (.tmp 73) 140 rfl 134 i4 4 Ybaz.underlying140 hi4 hzs4 sa 0 0 17 rfl ⟨w7.heap.size, 0, none⟩ 1 1 [.int .i64 (slots j), .int .i64 (slots j), .int .i64 (slots j), .float .f64 INF] rfl rfl (fun t u ht => by rw [Addr.add_lit, Nat.zero_add]; exact (Arr.oneK w7 134 4 #[.int .i64 (slots j), .int .i64 (slots j), .int .i64 (slots j), .float .f64 INF] rfl (by simp [Value.oneCell'])).cell t u ht) (by simp [Value.oneCell']) (by omega) (fun t ht => ⟨(((HAS.out.next (((Chg.refl S0 w4).alloc (.cells #[.pointer (some ⟨j, 0, none⟩)] 23)).drew) (fun _ e => e)).next HD7.out (fun _ e => hjas e.symm)).next ((Chg.refl S0 w7).alloc _) (fun _ e => e)).room _ (by simp at ht; omega), (((HAS.out.next (((Chg.refl S0 w4).alloc (.cells #[.pointer (some ⟨j, 0, none⟩)] 23)).drew) (fun _ e => e)).next HD7.out (fun _ e => hjas e.symm)).next ((Chg.refl S0 w7).alloc _) (fun _ e => e)).free _⟩) ?_
        generalize hw9 : World.setCells _ _ _ _ = w9
        obtain ⟨c9, a9, d9⟩ := HAP2.out _ (HC7.out.alloc _) (((HAS.out.next (((Chg.refl S0 w4).alloc (.cells #[.pointer (some ⟨j, 0, none⟩)] 23)).drew) (fun _ e => e)).next HD7.out (fun _ e => hjas e.symm)).next ((Chg.refl S0 w7).alloc _) (fun _ e => e)) _ hw9
        have HS9 : Hid (Arr w9 sa 134 4 1 17 [.int .i64 (slots j), .int .i64 (slots j), .int .i64 (slots j), .float .f64 INF]) := a9
        have HC9 : Hid (Chg (fun y _ => y = ja ∨ y = sa) w4 w9) := c9
        have HA9 : Hid (Arr w9 ja 23 1 1 17 [ptr j]) := (HA7.out.next ((Chg.refl S0 w7).alloc (.cells #[.int .i64 (slots j), .int .i64 (slots j), .int .i64 (slots j), .float .f64 INF] 134)) (fun _ e => e)).next d9 (fun _ e => hjas e)
        clear hw9 c9 a9 d9
        have hS1 : (fun w' : World => w'.cell? ⟨SP, 0, none⟩ = some (.int .i64 (slots j)) ∧ w'.cell? ⟨SP, 1, none⟩ = some (.int .i64 (slots j)) ∧ w'.cell? ⟨SP, 2, none⟩ = some (.int .i64 (slots j)) ∧ w'.cell? ⟨SP, 3, none⟩ = some (.float .f64 INF) ∧ w'.cell? ⟨j, 8, none⟩ = some (.int .i64 (slots j)) ∧ w'.cell? ⟨SP + 1, 0, none⟩ = some (.int .i64 0) ∧ w'.cell? ⟨SP + 1, 1, none⟩ = some (.int .i64 0) ∧ w'.cell? ⟨SP + 1, 2, none⟩ = some (.int .i64 0) ∧ w'.cell? ⟨SP + 1, 3, none⟩ = some (.int .i64 0) ∧ w'.cell? ⟨SP + 1, 4, none⟩ = some (.float .f64 0) ∧ w'.cell? ⟨SP + 1, 5, none⟩ = some (.float .f64 0) ∧ w'.cell? ⟨SP + 1, 6, none⟩ = some (.float .f64 0) ∧ w'.cell? ⟨SP + 1, 7, none⟩ = some (.float .f64 0) ∧ w'.cell? ⟨SP + 1, 8, none⟩ = some (.float .f64 0) ∧ w'.cell? ⟨SP + 1, 9, none⟩ = some (.float .f64 0) ∧ w'.cell? ⟨SP + 1, 10, none⟩ = some (.float .f64 0) ∧ w'.cell? ⟨SP + 1, 11, none⟩ = some (.float .f64 0) ∧ w'.cell? ⟨SP + 1, 12, none⟩ = some (.pointer none)) w9 := HS1.out _ (UP3.out _ HC9.out)
        refine hK.out _ _ ⟨⟨fun _ => HSS.out _ HC9.out, HS1.out _ (UP3.out _ HC9.out)⟩, ?_⟩
        try simp only [Act.put, List.setIfInBounds_toArray, List.set_cons_zero, List.set_cons_succ]
        clear hK K
        obtain ⟨n1, n2, n3, n4, n5, n6, n7⟩ := HBN.out
        have kc : ∀ t v, (newT ja sa)[t]? = some v → w9.cell? ⟨b, t, none⟩ = some v := fun t v ht => HC9.out.keep (HCE.out t v ht) (fun e => by rcases e with e | e <;> omega)
        have hfr : ∀ t, w9.frozen? ⟨b, t, none⟩ = false := fun t => (HC9.out.pln _ _ HPB.out).free t
        have z2 := kc 2 _ rfl
        have f2 := hfr 2
        have z3 := kc 3 _ rfl
        have f3 := hfr 3
        have z4 := kc 4 _ rfl
        have f4 := hfr 4
        have z5 := kc 5 _ rfl
        have f5 := hfr 5
        have z6 := kc 6 _ rfl
        have f6 := hfr 6
        have z7 := kc 7 _ rfl
        have f7 := hfr 7
        have z8 := kc 8 _ rfl
        have f8 := hfr 8
        have z9 := kc 9 _ rfl
        have f9 := hfr 9
        have z10 := kc 10 _ rfl
        have f10 := hfr 10
        have z11 := kc 11 _ rfl
        have f11 := hfr 11
        have z12 := kc 12 _ rfl
        have f12 := hfr 12
        have z13 := kc 13 _ rfl
        have f13 := hfr 13
        have z14 := kc 14 _ rfl
        have f14 := hfr 14
        have z15 := kc 15 _ rfl
        have f15 := hfr 15
        have z16 := kc 16 _ rfl
        have f16 := hfr 16
        have z17 := kc 17 _ rfl
        have f17 := hfr 17
        have z18 := kc 18 _ rfl
        have f18 := hfr 18
        have z19 := kc 19 _ rfl
        have f19 := hfr 19
        have z20 := kc 20 _ rfl
        have f20 := hfr 20
        have z21 := kc 21 _ rfl
        have f21 := hfr 21
        have z22 := kc 22 _ rfl
        have f22 := hfr 22
        have HKC : Hid (∀ t v, (newT ja sa)[t]? = some v → w9.cell? ⟨b, t, none⟩ = some v) := kc
        clear kc hfr n1 n2 n3 n4 n5 n6 n7
        refine wpAnyT_take1 (i := 27) (v := ?_) (by kernel_rfl) rfl (fun _ _ _ h => h) (Or.inl ⟨by rfl, ?_⟩) (by assumption) ?_
        rotate_left
        · (intro w hSw; (try dsimp only at hSw); go_simp; try (with_reducible rfl))
        simp only [Act.put, List.setIfInBounds_toArray, List.set_cons_zero, List.set_cons_succ]
        refine wpAnyT_take1 (i := 28) (v := ?_) (by kernel_rfl) rfl (fun _ _ _ h => h) (Or.inl ⟨by rfl, ?_⟩) (by assumption) ?_
        rotate_left
        · (intro w hSw; (try dsimp only at hSw); go_simp; try (with_reducible rfl))
        simp only [Act.put, List.setIfInBounds_toArray, List.set_cons_zero, List.set_cons_succ]
        refine wpAnyT_one (i := 29) (by kernel_rfl) rfl (by rfl) (fun K hK => ?_)
        go_simp
        clear hS1
        refine hK.out _ _ (and_pass ⟨fun h => (by cases h), ?_⟩ (fun hP => ?_))
        · exact HS1.out _ (by with_reducible (repeat (first | exact UP3.out _ HC9.out | refine Chg.set ?_ _ _ _ (fun _ => Or.inl rfl))))
        have hS1 := hP.2
        try simp only [Act.put, List.setIfInBounds_toArray, List.set_cons_zero, List.set_cons_succ]
        clear hK K hP
        refine wpAnyT_take1 (i := 30) (v := ?_) (by kernel_rfl) rfl (fun _ _ _ h => h) (Or.inl ⟨by rfl, ?_⟩) (by assumption) ?_
        rotate_left
        · (intro w hSw; (try dsimp only at hSw); go_simp; try (with_reducible rfl))
        simp only [Act.put, List.setIfInBounds_toArray, List.set_cons_zero, List.set_cons_succ]
        refine wpAnyT_take1 (i := 31) (v := ?_) (by kernel_rfl) rfl (fun _ _ _ h => h) (Or.inl ⟨by rfl, ?_⟩) (by assumption) ?_
        rotate_left
        · (intro w hSw; (try dsimp only at hSw); go_simp; try (with_reducible rfl))
        simp only [Act.put, List.setIfInBounds_toArray, List.set_cons_zero, List.set_cons_succ]
        refine wpAnyT_one (i := 32) (by kernel_rfl) rfl (by rfl) (fun K hK => ?_)
        go_simp
        clear hS1
        refine hK.out _ _ (and_pass ⟨fun h => (by cases h), ?_⟩ (fun hP => ?_))
        · exact HS1.out _ (by with_reducible (repeat (first | exact UP3.out _ HC9.out | refine Chg.set ?_ _ _ _ (fun _ => Or.inl rfl))))
        have hS1 := hP.2
        try simp only [Act.put, List.setIfInBounds_toArray, List.set_cons_zero, List.set_cons_succ]
        clear hK K hP
        refine wpAnyT_take1 (i := 33) (v := ?_) (by kernel_rfl) rfl (fun _ _ _ h => h) (Or.inl ⟨by rfl, ?_⟩) (by assumption) ?_
        rotate_left
        · (intro w hSw; (try dsimp only at hSw); go_simp; try (with_reducible rfl))
        simp only [Act.put, List.setIfInBounds_toArray, List.set_cons_zero, List.set_cons_succ]
        refine wpAnyT_take1 (i := 34) (v := ?_) (by kernel_rfl) rfl (fun _ _ _ h => h) (Or.inl ⟨by rfl, ?_⟩) (by assumption) ?_
        rotate_left
        · (intro w hSw; (try dsimp only at hSw); go_simp; try (with_reducible rfl))
        simp only [Act.put, List.setIfInBounds_toArray, List.set_cons_zero, List.set_cons_succ]
        refine wpAnyT_one (i := 35) (by kernel_rfl) rfl (by rfl) (fun K hK => ?_)
        go_simp
        clear hS1
        refine hK.out _ _ (and_pass ⟨fun h => (by cases h), ?_⟩ (fun hP => ?_))
        · exact HS1.out _ (by with_reducible (repeat (first | exact UP3.out _ HC9.out | refine Chg.set ?_ _ _ _ (fun _ => Or.inl rfl))))
        have hS1 := hP.2
        try simp only [Act.put, List.setIfInBounds_toArray, List.set_cons_zero, List.set_cons_succ]
        clear hK K hP
        refine wpAnyT_take1 (i := 36) (v := ?_) (by kernel_rfl) rfl (fun _ _ _ h => h) (Or.inl ⟨by rfl, ?_⟩) (by assumption) ?_
        rotate_left
        · (intro w hSw; (try dsimp only at hSw); go_simp; try (with_reducible rfl))
        simp only [Act.put, List.setIfInBounds_toArray, List.set_cons_zero, List.set_cons_succ]
        refine wpAnyT_take1 (i := 37) (v := ?_) (by kernel_rfl) rfl (fun _ _ _ h => h) (Or.inl ⟨by rfl, ?_⟩) (by assumption) ?_
        rotate_left
        · (intro w hSw; (try dsimp only at hSw); go_simp; try (with_reducible rfl))
        simp only [Act.put, List.setIfInBounds_toArray, List.set_cons_zero, List.set_cons_succ]
        refine wpAnyT_one (i := 38) (by kernel_rfl) rfl (by rfl) (fun K hK => ?_)
        go_simp
        clear hS1
        refine hK.out _ _ (and_pass ⟨fun h => (by cases h), ?_⟩ (fun hP => ?_))
        · exact HS1.out _ (by with_reducible (repeat (first | exact UP3.out _ HC9.out | refine Chg.set ?_ _ _ _ (fun _ => Or.inl rfl))))
        have hS1 := hP.2
        try simp only [Act.put, List.setIfInBounds_toArray, List.set_cons_zero, List.set_cons_succ]
        clear hK K hP
        refine wpAnyT_take1 (i := 39) (v := ?_) (by kernel_rfl) rfl (fun _ _ _ h => h) (Or.inl ⟨by rfl, ?_⟩) (by assumption) ?_
        rotate_left
        · (intro w hSw; (try dsimp only at hSw); go_simp; try (with_reducible rfl))
        simp only [Act.put, List.setIfInBounds_toArray, List.set_cons_zero, List.set_cons_succ]
        refine wpAnyT_take1 (i := 40) (v := ?_) (by kernel_rfl) rfl (fun _ _ _ h => h) (Or.inl ⟨by rfl, ?_⟩) (by assumption) ?_
        rotate_left
        · (intro w hSw; (try dsimp only at hSw); go_simp; try (with_reducible rfl))
        simp only [Act.put, List.setIfInBounds_toArray, List.set_cons_zero, List.set_cons_succ]
        refine wpAnyT_one (i := 41) (by kernel_rfl) rfl (by rfl) (fun K hK => ?_)
        go_simp
        clear hS1
        refine hK.out _ _ (and_pass ⟨fun h => (by cases h), ?_⟩ (fun hP => ?_))
        · exact HS1.out _ (by with_reducible (repeat (first | exact UP3.out _ HC9.out | refine Chg.set ?_ _ _ _ (fun _ => Or.inl rfl))))
        have hS1 := hP.2
        try simp only [Act.put, List.setIfInBounds_toArray, List.set_cons_zero, List.set_cons_succ]
        clear hK K hP
        refine wpAnyT_take1 (i := 42) (v := ?_) (by kernel_rfl) rfl (fun _ _ _ h => h) (Or.inl ⟨by rfl, ?_⟩) (by assumption) ?_
        rotate_left
        · (intro w hSw; (try dsimp only at hSw); go_simp; try (with_reducible rfl))
        simp only [Act.put, List.setIfInBounds_toArray, List.set_cons_zero, List.set_cons_succ]
        refine wpAnyT_take1 (i := 43) (v := ?_) (by kernel_rfl) rfl (fun _ _ _ h => h) (Or.inl ⟨by rfl, ?_⟩) (by assumption) ?_
        rotate_left
        · (intro w hSw; (try dsimp only at hSw); go_simp; try (with_reducible rfl))
        simp only [Act.put, List.setIfInBounds_toArray, List.set_cons_zero, List.set_cons_succ]
        refine wpAnyT_one (i := 44) (by kernel_rfl) rfl (by rfl) (fun K hK => ?_)
        go_simp
        clear hS1
        refine hK.out _ _ (and_pass ⟨fun h => (by cases h), ?_⟩ (fun hP => ?_))
        · exact HS1.out _ (by with_reducible (repeat (first | exact UP3.out _ HC9.out | refine Chg.set ?_ _ _ _ (fun _ => Or.inl rfl))))
        have hS1 := hP.2
        try simp only [Act.put, List.setIfInBounds_toArray, List.set_cons_zero, List.set_cons_succ]
        clear hK K hP
        refine wpAnyT_done (by kernel_rfl) ?_ _
        try simp only [Act.put, List.setIfInBounds_toArray, List.set_cons_zero, List.set_cons_succ]
        clear hS1
        go_wp2
        go_meet
        case rel => exact HFIN.out w9 HC9.out HA9.out HS9.out
      · go_simp
        refine hK.out _ _ ⟨⟨fun _ => HSS.out _ ((((Chg.refl _ w4).alloc _).alloc _).drew), HS1.out _ (UP3.out _ ((((Chg.refl _ w4).alloc _).alloc _).drew))⟩, ?_⟩
        try simp only [Act.put, List.setIfInBounds_toArray, List.set_cons_zero, List.set_cons_succ]
        clear hK K
        refine wpAnyT_one (i := 12) (by kernel_rfl) rfl (by rfl) (fun K hK => ?_)
        refine wp_append_room rfl (.tmp 64) (.tmp 66) 47 rfl 23 i0 1 Ybaz.underlying47 hi0 hzs ja 0 0 17 rfl ⟨w4.heap.size, 0, none⟩ 1 1 [ptr j] rfl rfl (fun t u ht => by rw [Addr.add_lit, Nat.zero_add]; exact (((Arr.one1 w4 23 (ptr j) rfl).next ((Chg.refl S0 _).alloc _) (fun _ e => e)).next ((Chg.refl S0 _).drew) (fun _ e => e)).cell t u ht) (by intro v hv; simp at hv; rw [hv]; rfl) (by omega) (fun t ht => ⟨(HAJ.out.next ((((Chg.refl S0 w4).alloc _).alloc _).drew) (fun _ e => e)).room _ (by simp at ht; omega), (HAJ.out.next ((((Chg.refl S0 w4).alloc _).alloc _).drew) (fun _ e => e)).free _⟩) ?_
        generalize hw7 : World.setCells _ _ _ _ = w7
        obtain ⟨c7, a7, d7⟩ := HAP1.out _ _ ((((Chg.refl _ w4).alloc _).alloc _).drew) (HAJ.out.next ((((Chg.refl S0 w4).alloc _).alloc _).drew) (fun _ e => e)) (((Arr.one1 w4 23 (ptr j) rfl).next ((Chg.refl S0 _).alloc _) (fun _ e => e)).next ((Chg.refl S0 _).drew) (fun _ e => e)) _ hw7
        have HC7 : Hid (Chg (fun y _ => y = ja ∨ y = sa) w4 w7) := c7
        have HA7 : Hid (Arr w7 ja 23 1 1 17 [ptr j]) := a7
        have HD7 : Hid (Chg (fun y _ => y = ja) _ w7) := d7
        clear hw7 c7 a7 d7
        refine hK.out _ _ ⟨⟨fun _ => HSS.out _ HC7.out, HS1.out _ (UP3.out _ HC7.out)⟩, ?_⟩
        try simp only [Act.put, List.setIfInBounds_toArray, List.set_cons_zero, List.set_cons_succ]
        clear hK K
        have HV7 : Hid (Arr w7 (w4.heap.size + 1) 134 4 1 1 [.int .i64 (slots j), .int .i64 (slots j), .int .i64 (slots j), .float .f64 INF]) := by
          have h1 := Arr.oneK (w4.alloc (.cells #[.pointer (some ⟨j, 0, none⟩)] 23)) 134 4 #[.int .i64 (slots j), .int .i64 (slots j), .int .i64 (slots j), .float .f64 INF] rfl (by simp [Value.oneCell'])
          rw [World.size_alloc] at h1
          exact (h1.next ((Chg.refl S0 _).drew) (fun _ e => e)).next HD7.out (fun _ e => by omega)
        have HX7 : Hid (Arr w7 sa 134 4 0 17 []) := (HAS.out.next ((((Chg.refl S0 w4).alloc (.cells #[.pointer (some ⟨j, 0, none⟩)] 23)).alloc (.cells #[.int .i64 (slots j), .int .i64 (slots j), .int .i64 (slots j), .float .f64 INF] 134)).drew) (fun _ e => e)).next HD7.out (fun _ e => hjas e.symm)
        refine wpAnyT_one (i := 19) (by kernel_rfl) rfl (by rfl) (fun K hK => ?_)
        refine wp_append_room rfl (.tmp 71) (.tmp 73) 140 rfl 134 i4 4 Ybaz.underlying140 hi4 hzs4 sa 0 0 17 rfl ⟨w4.heap.size + 1, 0, none⟩ 1 1 [.int .i64 (slots j), .int .i64 (slots j), .int .i64 (slots j), .float .f64 INF] rfl rfl (fun t u ht => by rw [Addr.add_lit, Nat.zero_add]; exact (HV7.out).cell t u ht) (by simp [Value.oneCell']) (by omega) (fun t ht => ⟨(HX7.out).room _ (by simp at ht; omega), (HX7.out).free _⟩) ?_
        generalize hw9 : World.setCells _ _ _ _ = w9
        obtain ⟨c9, a9, d9⟩ := HAP2.out _ HC7.out (HX7.out) _ hw9
        have HS9 : Hid (Arr w9 sa 134 4 1 17 [.int .i64 (slots j), .int .i64 (slots j), .int .i64 (slots j), .float .f64 INF]) := a9
        have HC9 : Hid (Chg (fun y _ => y = ja ∨ y = sa) w4 w9) := c9
        have HA9 : Hid (Arr w9 ja 23 1 1 17 [ptr j]) := HA7.out.next d9 (fun _ e => hjas e)
        clear hw9 c9 a9 d9
        have hS1 : (fun w' : World => w'.cell? ⟨SP, 0, none⟩ = some (.int .i64 (slots j)) ∧ w'.cell? ⟨SP, 1, none⟩ = some (.int .i64 (slots j)) ∧ w'.cell? ⟨SP, 2, none⟩ = some (.int .i64 (slots j)) ∧ w'.cell? ⟨SP, 3, none⟩ = some (.float .f64 INF) ∧ w'.cell? ⟨j, 8, none⟩ = some (.int .i64 (slots j)) ∧ w'.cell? ⟨SP + 1, 0, none⟩ = some (.int .i64 0) ∧ w'.cell? ⟨SP + 1, 1, none⟩ = some (.int .i64 0) ∧ w'.cell? ⟨SP + 1, 2, none⟩ = some (.int .i64 0) ∧ w'.cell? ⟨SP + 1, 3, none⟩ = some (.int .i64 0) ∧ w'.cell? ⟨SP + 1, 4, none⟩ = some (.float .f64 0) ∧ w'.cell? ⟨SP + 1, 5, none⟩ = some (.float .f64 0) ∧ w'.cell? ⟨SP + 1, 6, none⟩ = some (.float .f64 0) ∧ w'.cell? ⟨SP + 1, 7, none⟩ = some (.float .f64 0) ∧ w'.cell? ⟨SP + 1, 8, none⟩ = some (.float .f64 0) ∧ w'.cell? ⟨SP + 1, 9, none⟩ = some (.float .f64 0) ∧ w'.cell? ⟨SP + 1, 10, none⟩ = some (.float .f64 0) ∧ w'.cell? ⟨SP + 1, 11, none⟩ = some (.float .f64 0) ∧ w'.cell? ⟨SP + 1, 12, none⟩ = some (.pointer none)) w9 := HS1.out _ (UP3.out _ HC9.out)
        refine hK.out _ _ ⟨⟨fun _ => HSS.out _ HC9.out, HS1.out _ (UP3.out _ HC9.out)⟩, ?_⟩
        try simp only [Act.put, List.setIfInBounds_toArray, List.set_cons_zero, List.set_cons_succ]
        clear hK K
        obtain ⟨n1, n2, n3, n4, n5, n6, n7⟩ := HBN.out
        have kc : ∀ t v, (newT ja sa)[t]? = some v → w9.cell? ⟨b, t, none⟩ = some v := fun t v ht => HC9.out.keep (HCE.out t v ht) (fun e => by rcases e with e | e <;> omega)
        have hfr : ∀ t, w9.frozen? ⟨b, t, none⟩ = false := fun t => (HC9.out.pln _ _ HPB.out).free t
        have z2 := kc 2 _ rfl
        have f2 := hfr 2
        have z3 := kc 3 _ rfl
        have f3 := hfr 3
        have z4 := kc 4 _ rfl
        have f4 := hfr 4
        have z5 := kc 5 _ rfl
        have f5 := hfr 5
        have z6 := kc 6 _ rfl
        have f6 := hfr 6
        have z7 := kc 7 _ rfl
        have f7 := hfr 7
        have z8 := kc 8 _ rfl
        have f8 := hfr 8
        have z9 := kc 9 _ rfl
        have f9 := hfr 9
        have z10 := kc 10 _ rfl
        have f10 := hfr 10
        have z11 := kc 11 _ rfl
        have f11 := hfr 11
        have z12 := kc 12 _ rfl
        have f12 := hfr 12
        have z13 := kc 13 _ rfl
        have f13 := hfr 13
        have z14 := kc 14 _ rfl
        have f14 := hfr 14
        have z15 := kc 15 _ rfl
        have f15 := hfr 15
        have z16 := kc 16 _ rfl
        have f16 := hfr 16
        have z17 := kc 17 _ rfl
        have f17 := hfr 17
        have z18 := kc 18 _ rfl
        have f18 := hfr 18
        have z19 := kc 19 _ rfl
        have f19 := hfr 19
        have z20 := kc 20 _ rfl
        have f20 := hfr 20
        have z21 := kc 21 _ rfl
        have f21 := hfr 21
        have z22 := kc 22 _ rfl
        have f22 := hfr 22
        have HKC : Hid (∀ t v, (newT ja sa)[t]? = some v → w9.cell? ⟨b, t, none⟩ = some v) := kc
        clear kc hfr n1 n2 n3 n4 n5 n6 n7
        refine wpAnyT_take1 (i := 27) (v := ?_) (by kernel_rfl) rfl (fun _ _ _ h => h) (Or.inl ⟨by rfl, ?_⟩) (by assumption) ?_
        rotate_left
        · (intro w hSw; (try dsimp only at hSw); go_simp; try (with_reducible rfl))
        simp only [Act.put, List.setIfInBounds_toArray, List.set_cons_zero, List.set_cons_succ]
        refine wpAnyT_take1 (i := 28) (v := ?_) (by kernel_rfl) rfl (fun _ _ _ h => h) (Or.inl ⟨by rfl, ?_⟩) (by assumption) ?_
        rotate_left
        · (intro w hSw; (try dsimp only at hSw); go_simp; try (with_reducible rfl))
        simp only [Act.put, List.setIfInBounds_toArray, List.set_cons_zero, List.set_cons_succ]
        refine wpAnyT_one (i := 29) (by kernel_rfl) rfl (by rfl) (fun K hK => ?_)
        go_simp
        clear hS1
        refine hK.out _ _ (and_pass ⟨fun h => (by cases h), ?_⟩ (fun hP => ?_))
        · exact HS1.out _ (by with_reducible (repeat (first | exact UP3.out _ HC9.out | refine Chg.set ?_ _ _ _ (fun _ => Or.inl rfl))))
        have hS1 := hP.2
        try simp only [Act.put, List.setIfInBounds_toArray, List.set_cons_zero, List.set_cons_succ]
        clear hK K hP
        refine wpAnyT_take1 (i := 30) (v := ?_) (by kernel_rfl) rfl (fun _ _ _ h => h) (Or.inl ⟨by rfl, ?_⟩) (by assumption) ?_
        rotate_left
        · (intro w hSw; (try dsimp only at hSw); go_simp; try (with_reducible rfl))
        simp only [Act.put, List.setIfInBounds_toArray, List.set_cons_zero, List.set_cons_succ]
        refine wpAnyT_take1 (i := 31) (v := ?_) (by kernel_rfl) rfl (fun _ _ _ h => h) (Or.inl ⟨by rfl, ?_⟩) (by assumption) ?_
        rotate_left
        · (intro w hSw; (try dsimp only at hSw); go_simp; try (with_reducible rfl))
        simp only [Act.put, List.setIfInBounds_toArray, List.set_cons_zero, List.set_cons_succ]
        refine wpAnyT_one (i := 32) (by kernel_rfl) rfl (by rfl) (fun K hK => ?_)
        go_simp
        clear hS1
        refine hK.out _ _ (and_pass ⟨fun h => (by cases h), ?_⟩ (fun hP => ?_))
        · exact HS1.out _ (by with_reducible (repeat (first | exact UP3.out _ HC9.out | refine Chg.set ?_ _ _ _ (fun _ => Or.inl rfl))))
        have hS1 := hP.2
        try simp only [Act.put, List.setIfInBounds_toArray, List.set_cons_zero, List.set_cons_succ]
        clear hK K hP
        refine wpAnyT_take1 (i := 33) (v := ?_) (by kernel_rfl) rfl (fun _ _ _ h => h) (Or.inl ⟨by rfl, ?_⟩) (by assumption) ?_
        rotate_left
        · (intro w hSw; (try dsimp only at hSw); go_simp; try (with_reducible rfl))
        simp only [Act.put, List.setIfInBounds_toArray, List.set_cons_zero, List.set_cons_succ]
        refine wpAnyT_take1 (i := 34) (v := ?_) (by kernel_rfl) rfl (fun _ _ _ h => h) (Or.inl ⟨by rfl, ?_⟩) (by assumption) ?_
        rotate_left
        · (intro w hSw; (try dsimp only at hSw); go_simp; try (with_reducible rfl))
        simp only [Act.put, List.setIfInBounds_toArray, List.set_cons_zero, List.set_cons_succ]
        refine wpAnyT_one (i := 35) (by kernel_rfl) rfl (by rfl) (fun K hK => ?_)
        go_simp
        clear hS1
        refine hK.out _ _ (and_pass ⟨fun h => (by cases h), ?_⟩ (fun hP => ?_))
        · exact HS1.out _ (by with_reducible (repeat (first | exact UP3.out _ HC9.out | refine Chg.set ?_ _ _ _ (fun _ => Or.inl rfl))))
        have hS1 := hP.2
        try simp only [Act.put, List.setIfInBounds_toArray, List.set_cons_zero, List.set_cons_succ]
        clear hK K hP
        refine wpAnyT_take1 (i := 36) (v := ?_) (by kernel_rfl) rfl (fun _ _ _ h => h) (Or.inl ⟨by rfl, ?_⟩) (by assumption) ?_
        rotate_left
        · (intro w hSw; (try dsimp only at hSw); go_simp; try (with_reducible rfl))
        simp only [Act.put, List.setIfInBounds_toArray, List.set_cons_zero, List.set_cons_succ]
        refine wpAnyT_take1 (i := 37) (v := ?_) (by kernel_rfl) rfl (fun _ _ _ h => h) (Or.inl ⟨by rfl, ?_⟩) (by assumption) ?_
        rotate_left
        · (intro w hSw; (try dsimp only at hSw); go_simp; try (with_reducible rfl))
        simp only [Act.put, List.setIfInBounds_toArray, List.set_cons_zero, List.set_cons_succ]
        refine wpAnyT_one (i := 38) (by kernel_rfl) rfl (by rfl) (fun K hK => ?_)
        go_simp
        clear hS1
        refine hK.out _ _ (and_pass ⟨fun h => (by cases h), ?_⟩ (fun hP => ?_))
        · exact HS1.out _ (by with_reducible (repeat (first | exact UP3.out _ HC9.out | refine Chg.set ?_ _ _ _ (fun _ => Or.inl rfl))))
        have hS1 := hP.2
        try simp only [Act.put, List.setIfInBounds_toArray, List.set_cons_zero, List.set_cons_succ]
        clear hK K hP
        refine wpAnyT_take1 (i := 39) (v := ?_) (by kernel_rfl) rfl (fun _ _ _ h => h) (Or.inl ⟨by rfl, ?_⟩) (by assumption) ?_
        rotate_left
        · (intro w hSw; (try dsimp only at hSw); go_simp; try (with_reducible rfl))
        simp only [Act.put, List.setIfInBounds_toArray, List.set_cons_zero, List.set_cons_succ]
        refine wpAnyT_take1 (i := 40) (v := ?_) (by kernel_rfl) rfl (fun _ _ _ h => h) (Or.inl ⟨by rfl, ?_⟩) (by assumption) ?_
        rotate_left
        · (intro w hSw; (try dsimp only at hSw); go_simp; try (with_reducible rfl))
        simp only [Act.put, List.setIfInBounds_toArray, List.set_cons_zero, List.set_cons_succ]
        refine wpAnyT_one (i := 41) (by kernel_rfl) rfl (by rfl) (fun K hK => ?_)
        go_simp
        clear hS1
        refine hK.out _ _ (and_pass ⟨fun h => (by cases h), ?_⟩ (fun hP => ?_))
        · exact HS1.out _ (by with_reducible (repeat (first | exact UP3.out _ HC9.out | refine Chg.set ?_ _ _ _ (fun _ => Or.inl rfl))))
        have hS1 := hP.2
        try simp only [Act.put, List.setIfInBounds_toArray, List.set_cons_zero, List.set_cons_succ]
        clear hK K hP
        refine wpAnyT_take1 (i := 42) (v := ?_) (by kernel_rfl) rfl (fun _ _ _ h => h) (Or.inl ⟨by rfl, ?_⟩) (by assumption) ?_
        rotate_left
        · (intro w hSw; (try dsimp only at hSw); go_simp; try (with_reducible rfl))
        simp only [Act.put, List.setIfInBounds_toArray, List.set_cons_zero, List.set_cons_succ]
        refine wpAnyT_take1 (i := 43) (v := ?_) (by kernel_rfl) rfl (fun _ _ _ h => h) (Or.inl ⟨by rfl, ?_⟩) (by assumption) ?_
        rotate_left
        · (intro w hSw; (try dsimp only at hSw); go_simp; try (with_reducible rfl))
        simp only [Act.put, List.setIfInBounds_toArray, List.set_cons_zero, List.set_cons_succ]
        refine wpAnyT_one (i := 44) (by kernel_rfl) rfl (by rfl) (fun K hK => ?_)
        go_simp
        clear hS1
        refine hK.out _ _ (and_pass ⟨fun h => (by cases h), ?_⟩ (fun hP => ?_))
        · exact HS1.out _ (by with_reducible (repeat (first | exact UP3.out _ HC9.out | refine Chg.set ?_ _ _ _ (fun _ => Or.inl rfl))))
        have hS1 := hP.2
        try simp only [Act.put, List.setIfInBounds_toArray, List.set_cons_zero, List.set_cons_succ]
        clear hK K hP
        refine wpAnyT_done (by kernel_rfl) ?_ _
        try simp only [Act.put, List.setIfInBounds_toArray, List.set_cons_zero, List.set_cons_succ]
        clear hS1
        go_wp2
        go_meet
        case rel => exact HFIN.out w9 HC9.out HA9.out HS9.out
    · go_simp
      refine hK.out _ _ ⟨⟨fun _ => HSS.out _ (((Chg.refl _ w4).alloc _).drew), HS1.out _ (UP3.out _ (((Chg.refl _ w4).alloc _).drew))⟩, ?_⟩
      try simp only [Act.put, List.setIfInBounds_toArray, List.set_cons_zero, List.set_cons_succ]
      clear hK K
      refine wpAnyT_one (i := 11) (by kernel_rfl) rfl (by rfl) (fun K hK => ?_)
      go_simp
      refine hK.out _ _ ⟨⟨fun _ => HSS.out _ ((((Chg.refl _ w4).alloc _).alloc _).drew), HS1.out _ (UP3.out _ ((((Chg.refl _ w4).alloc _).alloc _).drew))⟩, ?_⟩
      try simp only [Act.put, List.setIfInBounds_toArray, List.set_cons_zero, List.set_cons_succ]
      clear hK K
      refine wpAnyT_one (i := 12) (by kernel_rfl) rfl (by rfl) (fun K hK => ?_)
      have hv1 := Arr.one1 (w4.alloc (.cells #[.int .i64 (slots j), .int .i64 (slots j), .int .i64 (slots j), .float .f64 INF] 134)) 23 (ptr j) rfl
      rw [World.size_alloc] at hv1
      have HV1 : Hid (Arr (((w4.alloc (.cells #[.int .i64 (slots j), .int .i64 (slots j), .int .i64 (slots j), .float .f64 INF] 134)).alloc (.cells #[.pointer (some ⟨j, 0, none⟩)] 23)).drew) (w4.heap.size + 1) 23 1 1 1 [ptr j]) := hv1.next ((Chg.refl S0 _).drew) (fun _ e => e)
      clear hv1
      refine wp_append_room rfl (.tmp 64) (.tmp 66) 47 rfl 23 i0 1 Ybaz.underlying47 hi0 hzs ja 0 0 17 rfl ⟨w4.heap.size + 1, 0, none⟩ 1 1 [ptr j] rfl rfl (fun t u ht => by rw [Addr.add_lit, Nat.zero_add]; exact (HV1.out).cell t u ht) (by intro v hv; simp at hv; rw [hv]; rfl) (by omega) (fun t ht => ⟨(HAJ.out.next ((((Chg.refl S0 w4).alloc _).alloc _).drew) (fun _ e => e)).room _ (by simp at ht; omega), (HAJ.out.next ((((Chg.refl S0 w4).alloc _).alloc _).drew) (fun _ e => e)).free _⟩) ?_
      generalize hw7 : World.setCells _ _ _ _ = w7
      obtain ⟨c7, a7, d7⟩ := HAP1.out _ _ ((((Chg.refl _ w4).alloc _).alloc _).drew) (HAJ.out.next ((((Chg.refl S0 w4).alloc _).alloc _).drew) (fun _ e => e)) (HV1.out) _ hw7
      have HC7 : Hid (Chg (fun y _ => y = ja ∨ y = sa) w4 w7) := c7
      have HA7 : Hid (Arr w7 ja 23 1 1 17 [ptr j]) := a7
      have HD7 : Hid (Chg (fun y _ => y = ja) _ w7) := d7
      clear hw7 c7 a7 d7
      refine hK.out _ _ ⟨⟨fun _ => HSS.out _ HC7.out, HS1.out _ (UP3.out _ HC7.out)⟩, ?_⟩
      try simp only [Act.put, List.setIfInBounds_toArray, List.set_cons_zero, List.set_cons_succ]
      clear hK K
      have HV7 : Hid (Arr w7 w4.heap.size 134 4 1 1 [.int .i64 (slots j), .int .i64 (slots j), .int .i64 (slots j), .float .f64 INF]) := (((Arr.oneK w4 134 4 #[.int .i64 (slots j), .int .i64 (slots j), .int .i64 (slots j), .float .f64 INF] rfl (by simp [Value.oneCell'])).next ((Chg.refl S0 _).alloc (.cells #[.pointer (some ⟨j, 0, none⟩)] 23)) (fun _ e => e)).next ((Chg.refl S0 _).drew) (fun _ e => e)).next HD7.out (fun _ e => by omega)
      have HX7 : Hid (Arr w7 sa 134 4 0 17 []) := (HAS.out.next ((((Chg.refl S0 w4).alloc (.cells #[.int .i64 (slots j), .int .i64 (slots j), .int .i64 (slots j), .float .f64 INF] 134)).alloc (.cells #[.pointer (some ⟨j, 0, none⟩)] 23)).drew) (fun _ e => e)).next HD7.out (fun _ e => hjas e.symm)
      refine wpAnyT_one (i := 19) (by kernel_rfl) rfl (by rfl) (fun K hK => ?_)
      refine wp_append_room rfl (.tmp 71) (.tmp 73) 140 rfl 134 i4 4 Ybaz.underlying140 hi4 hzs4 sa 0 0 17 rfl ⟨w4.heap.size, 0, none⟩ 1 1 [.int .i64 (slots j), .int .i64 (slots j), .int .i64 (slots j), .float .f64 INF] rfl rfl (fun t u ht => by rw [Addr.add_lit, Nat.zero_add]; exact (HV7.out).cell t u ht) (by simp [Value.oneCell']) (by omega) (fun t ht => ⟨(HX7.out).room _ (by simp at ht; omega), (HX7.out).free _⟩) ?_
      generalize hw9 : World.setCells _ _ _ _ = w9
      obtain ⟨c9, a9, d9⟩ := HAP2.out _ HC7.out (HX7.out) _ hw9
      have HS9 : Hid (Arr w9 sa 134 4 1 17 [.int .i64 (slots j), .int .i64 (slots j), .int .i64 (slots j), .float .f64 INF]) := a9
      have HC9 : Hid (Chg (fun y _ => y = ja ∨ y = sa) w4 w9) := c9
      have HA9 : Hid (Arr w9 ja 23 1 1 17 [ptr j]) := HA7.out.next d9 (fun _ e => hjas e)
      clear hw9 c9 a9 d9
      have hS1 : (fun w' : World => w'.cell? ⟨SP, 0, none⟩ = some (.int .i64 (slots j)) ∧ w'.cell? ⟨SP, 1, none⟩ = some (.int .i64 (slots j)) ∧ w'.cell? ⟨SP, 2, none⟩ = some (.int .i64 (slots j)) ∧ w'.cell? ⟨SP, 3, none⟩ = some (.float .f64 INF) ∧ w'.cell? ⟨j, 8, none⟩ = some (.int .i64 (slots j)) ∧ w'.cell? ⟨SP + 1, 0, none⟩ = some (.int .i64 0) ∧ w'.cell? ⟨SP + 1, 1, none⟩ = some (.int .i64 0) ∧ w'.cell? ⟨SP + 1, 2, none⟩ = some (.int .i64 0) ∧ w'.cell? ⟨SP + 1, 3, none⟩ = some (.int .i64 0) ∧ w'.cell? ⟨SP + 1, 4, none⟩ = some (.float .f64 0) ∧ w'.cell? ⟨SP + 1, 5, none⟩ = some (.float .f64 0) ∧ w'.cell? ⟨SP + 1, 6, none⟩ = some (.float .f64 0) ∧ w'.cell? ⟨SP + 1, 7, none⟩ = some (.float .f64 0) ∧ w'.cell? ⟨SP + 1, 8, none⟩ = some (.float .f64 0) ∧ w'.cell? ⟨SP + 1, 9, none⟩ = some (.float .f64 0) ∧ w'.cell? ⟨SP + 1, 10, none⟩ = some (.float .f64 0) ∧ w'.cell? ⟨SP + 1, 11, none⟩ = some (.float .f64 0) ∧ w'.cell? ⟨SP + 1, 12, none⟩ = some (.pointer none)) w9 := HS1.out _ (UP3.out _ HC9.out)
      refine hK.out _ _ ⟨⟨fun _ => HSS.out _ HC9.out, HS1.out _ (UP3.out _ HC9.out)⟩, ?_⟩
      try simp only [Act.put, List.setIfInBounds_toArray, List.set_cons_zero, List.set_cons_succ]
      clear hK K
      obtain ⟨n1, n2, n3, n4, n5, n6, n7⟩ := HBN.out
      have kc : ∀ t v, (newT ja sa)[t]? = some v → w9.cell? ⟨b, t, none⟩ = some v := fun t v ht => HC9.out.keep (HCE.out t v ht) (fun e => by rcases e with e | e <;> omega)
      have hfr : ∀ t, w9.frozen? ⟨b, t, none⟩ = false := fun t => (HC9.out.pln _ _ HPB.out).free t
      have z2 := kc 2 _ rfl
      have f2 := hfr 2
      have z3 := kc 3 _ rfl
      have f3 := hfr 3
      have z4 := kc 4 _ rfl
      have f4 := hfr 4
      have z5 := kc 5 _ rfl
      have f5 := hfr 5
      have z6 := kc 6 _ rfl
      have f6 := hfr 6
      have z7 := kc 7 _ rfl
      have f7 := hfr 7
      have z8 := kc 8 _ rfl
      have f8 := hfr 8
      have z9 := kc 9 _ rfl
      have f9 := hfr 9
      have z10 := kc 10 _ rfl
      have f10 := hfr 10
      have z11 := kc 11 _ rfl
      have f11 := hfr 11
      have z12 := kc 12 _ rfl
      have f12 := hfr 12
      have z13 := kc 13 _ rfl
      have f13 := hfr 13
      have z14 := kc 14 _ rfl
      have f14 := hfr 14
      have z15 := kc 15 _ rfl
      have f15 := hfr 15
      have z16 := kc 16 _ rfl
      have f16 := hfr 16
      have z17 := kc 17 _ rfl
      have f17 := hfr 17
      have z18 := kc 18 _ rfl
      have f18 := hfr 18
      have z19 := kc 19 _ rfl
      have f19 := hfr 19
      have z20 := kc 20 _ rfl
      have f20 := hfr 20
      have z21 := kc 21 _ rfl
      have f21 := hfr 21
      have z22 := kc 22 _ rfl
      have f22 := hfr 22
      have HKC : Hid (∀ t v, (newT ja sa)[t]? = some v → w9.cell? ⟨b, t, none⟩ = some v) := kc
      clear kc hfr n1 n2 n3 n4 n5 n6 n7
      refine wpAnyT_take1 (i := 27) (v := ?_) (by kernel_rfl) rfl (fun _ _ _ h => h) (Or.inl ⟨by rfl, ?_⟩) (by assumption) ?_
      rotate_left
      · (intro w hSw; (try dsimp only at hSw); go_simp; try (with_reducible rfl))
      simp only [Act.put, List.setIfInBounds_toArray, List.set_cons_zero, List.set_cons_succ]
      refine wpAnyT_take1 (i := 28) (v := ?_) (by kernel_rfl) rfl (fun _ _ _ h => h) (Or.inl ⟨by rfl, ?_⟩) (by assumption) ?_
      rotate_left
      · (intro w hSw; (try dsimp only at hSw); go_simp; try (with_reducible rfl))
      simp only [Act.put, List.setIfInBounds_toArray, List.set_cons_zero, List.set_cons_succ]
      refine wpAnyT_one (i := 29) (by kernel_rfl) rfl (by rfl) (fun K hK => ?_)
      go_simp
      clear hS1
      refine hK.out _ _ (and_pass ⟨fun h => (by cases h), ?_⟩ (fun hP => ?_))
      · exact HS1.out _ (by with_reducible (repeat (first | exact UP3.out _ HC9.out | refine Chg.set ?_ _ _ _ (fun _ => Or.inl rfl))))
      have hS1 := hP.2
      try simp only [Act.put, List.setIfInBounds_toArray, List.set_cons_zero, List.set_cons_succ]
      clear hK K hP
      refine wpAnyT_take1 (i := 30) (v := ?_) (by kernel_rfl) rfl (fun _ _ _ h => h) (Or.inl ⟨by rfl, ?_⟩) (by assumption) ?_
      rotate_left
      · (intro w hSw; (try dsimp only at hSw); go_simp; try (with_reducible rfl))
      simp only [Act.put, List.setIfInBounds_toArray, List.set_cons_zero, List.set_cons_succ]
      refine wpAnyT_take1 (i := 31) (v := ?_) (by kernel_rfl) rfl (fun _ _ _ h => h) (Or.inl ⟨by rfl, ?_⟩) (by assumption) ?_
      rotate_left
      · (intro w hSw; (try dsimp only at hSw); go_simp; try (with_reducible rfl))
      simp only [Act.put, List.setIfInBounds_toArray, List.set_cons_zero, List.set_cons_succ]
      refine wpAnyT_one (i := 32) (by kernel_rfl) rfl (by rfl) (fun K hK => ?_)
      go_simp
      clear hS1
      refine hK.out _ _ (and_pass ⟨fun h => (by cases h), ?_⟩ (fun hP => ?_))
      · exact HS1.out _ (by with_reducible (repeat (first | exact UP3.out _ HC9.out | refine Chg.set ?_ _ _ _ (fun _ => Or.inl rfl))))
      have hS1 := hP.2
      try simp only [Act.put, List.setIfInBounds_toArray, List.set_cons_zero, List.set_cons_succ]
      clear hK K hP
      refine wpAnyT_take1 (i := 33) (v := ?_) (by kernel_rfl) rfl (fun _ _ _ h => h) (Or.inl ⟨by rfl, ?_⟩) (by assumption) ?_
      rotate_left
      · (intro w hSw; (try dsimp only at hSw); go_simp; try (with_reducible rfl))
      simp only [Act.put, List.setIfInBounds_toArray, List.set_cons_zero, List.set_cons_succ]
      refine wpAnyT_take1 (i := 34) (v := ?_) (by kernel_rfl) rfl (fun _ _ _ h => h) (Or.inl ⟨by rfl, ?_⟩) (by assumption) ?_
      rotate_left
      · (intro w hSw; (try dsimp only at hSw); go_simp; try (with_reducible rfl))
      simp only [Act.put, List.setIfInBounds_toArray, List.set_cons_zero, List.set_cons_succ]
      refine wpAnyT_one (i := 35) (by kernel_rfl) rfl (by rfl) (fun K hK => ?_)
      go_simp
      clear hS1
      refine hK.out _ _ (and_pass ⟨fun h => (by cases h), ?_⟩ (fun hP => ?_))
      · exact HS1.out _ (by with_reducible (repeat (first | exact UP3.out _ HC9.out | refine Chg.set ?_ _ _ _ (fun _ => Or.inl rfl))))
      have hS1 := hP.2
      try simp only [Act.put, List.setIfInBounds_toArray, List.set_cons_zero, List.set_cons_succ]
      clear hK K hP
      refine wpAnyT_take1 (i := 36) (v := ?_) (by kernel_rfl) rfl (fun _ _ _ h => h) (Or.inl ⟨by rfl, ?_⟩) (by assumption) ?_
      rotate_left
      · (intro w hSw; (try dsimp only at hSw); go_simp; try (with_reducible rfl))
      simp only [Act.put, List.setIfInBounds_toArray, List.set_cons_zero, List.set_cons_succ]
      refine wpAnyT_take1 (i := 37) (v := ?_) (by kernel_rfl) rfl (fun _ _ _ h => h) (Or.inl ⟨by rfl, ?_⟩) (by assumption) ?_
      rotate_left
      · (intro w hSw; (try dsimp only at hSw); go_simp; try (with_reducible rfl))
      simp only [Act.put, List.setIfInBounds_toArray, List.set_cons_zero, List.set_cons_succ]
      refine wpAnyT_one (i := 38) (by kernel_rfl) rfl (by rfl) (fun K hK => ?_)
      go_simp
      clear hS1
      refine hK.out _ _ (and_pass ⟨fun h => (by cases h), ?_⟩ (fun hP => ?_))
      · exact HS1.out _ (by with_reducible (repeat (first | exact UP3.out _ HC9.out | refine Chg.set ?_ _ _ _ (fun _ => Or.inl rfl))))
      have hS1 := hP.2
      try simp only [Act.put, List.setIfInBounds_toArray, List.set_cons_zero, List.set_cons_succ]
      clear hK K hP
      refine wpAnyT_take1 (i := 39) (v := ?_) (by kernel_rfl) rfl (fun _ _ _ h => h) (Or.inl ⟨by rfl, ?_⟩) (by assumption) ?_
      rotate_left
      · (intro w hSw; (try dsimp only at hSw); go_simp; try (with_reducible rfl))
      simp only [Act.put, List.setIfInBounds_toArray, List.set_cons_zero, List.set_cons_succ]
      refine wpAnyT_take1 (i := 40) (v := ?_) (by kernel_rfl) rfl (fun _ _ _ h => h) (Or.inl ⟨by rfl, ?_⟩) (by assumption) ?_
      rotate_left
      · (intro w hSw; (try dsimp only at hSw); go_simp; try (with_reducible rfl))
      simp only [Act.put, List.setIfInBounds_toArray, List.set_cons_zero, List.set_cons_succ]
      refine wpAnyT_one (i := 41) (by kernel_rfl) rfl (by rfl) (fun K hK => ?_)
      go_simp
      clear hS1
      refine hK.out _ _ (and_pass ⟨fun h => (by cases h), ?_⟩ (fun hP => ?_))
      · exact HS1.out _ (by with_reducible (repeat (first | exact UP3.out _ HC9.out | refine Chg.set ?_ _ _ _ (fun _ => Or.inl rfl))))
      have hS1 := hP.2
      try simp only [Act.put, List.setIfInBounds_toArray, List.set_cons_zero, List.set_cons_succ]
      clear hK K hP
      refine wpAnyT_take1 (i := 42) (v := ?_) (by kernel_rfl) rfl (fun _ _ _ h => h) (Or.inl ⟨by rfl, ?_⟩) (by assumption) ?_
      rotate_left
      · (intro w hSw; (try dsimp only at hSw); go_simp; try (with_reducible rfl))
      simp only [Act.put, List.setIfInBounds_toArray, List.set_cons_zero, List.set_cons_succ]
      refine wpAnyT_take1 (i := 43) (v := ?_) (by kernel_rfl) rfl (fun _ _ _ h => h) (Or.inl ⟨by rfl, ?_⟩) (by assumption) ?_
      rotate_left
      · (intro w hSw; (try dsimp only at hSw); go_simp; try (with_reducible rfl))
      simp only [Act.put, List.setIfInBounds_toArray, List.set_cons_zero, List.set_cons_succ]
      refine wpAnyT_one (i := 44) (by kernel_rfl) rfl (by rfl) (fun K hK => ?_)
      go_simp
      clear hS1
      refine hK.out _ _ (and_pass ⟨fun h => (by cases h), ?_⟩ (fun hP => ?_))
      · exact HS1.out _ (by with_reducible (repeat (first | exact UP3.out _ HC9.out | refine Chg.set ?_ _ _ _ (fun _ => Or.inl rfl))))
      have hS1 := hP.2
      try simp only [Act.put, List.setIfInBounds_toArray, List.set_cons_zero, List.set_cons_succ]
      clear hK K hP
      refine wpAnyT_done (by kernel_rfl) ?_ _
      try simp only [Act.put, List.setIfInBounds_toArray, List.set_cons_zero, List.set_cons_succ]
      clear hS1
      go_wp2
      go_meet
      case rel => exact HFIN.out w9 HC9.out HA9.out HS9.out
  case rest =>
    rename World => w5
    obtain ⟨hc5, hl5⟩ := hcut
    have HL5 : Hid (LeafAt w5 none j ja sa [j] b) := hl5
    obtain ⟨n1, n2, n3, n4, n5, n6, n7⟩ := HBN.out
    have HC5 : Hid (Chg (fun x t => x = qb ∧ (t = qo + 4 ∨ t = qo + 6)) w w5) := HC4.out.trans hc5 (fun y t hy e => by rcases e with e | e | e <;> omega)
    have HC35 : Hid (Chg S0 w3 w5) := HC34.out.trans hc5 (fun y t hy e => by rcases e with e | e | e <;> omega)
    have q3 : w5.cell? ⟨qb, qo + 3, none⟩ = some (.pointer none) := HC5.out.keep HQC.out.2.2.2 (fun e => by have := e.2; omega)
    have q1 : w5.cell? ⟨qb, qo + 1, none⟩ = some (.int .i64 sl) := HC5.out.keep HQC.out.2.1 (fun e => by have := e.2; omega)
    have fq3 : w5.frozen? ⟨qb, qo + 3, none⟩ = false := by obtain ⟨tq, hq0⟩ := HPL.out; exact (HC5.out.pln _ _ hq0).free _
    obtain ⟨vj, hvj⟩ := Option.isSome_iff_exists.1 (HC5.out.has j sl (HJ.out.lv sl hsl))
    have fj : w5.frozen? ⟨j, sl, none⟩ = false := (HC5.out.pln _ _ HJ.out.pl).free sl
    have s1a : (0 : Int) ≤ (sl : Int) := by omega
    have s1b : (sl : Int) < 3 := by omega
    clear hc5 hl5 n1 n2 n3 n4 n5 n6 n7
    go_upto_region 12 with fail
    go_region
    all_goals go_wp2
    all_goals (refine bodyPost_ret (results_none rfl _ _ _) rfl ?_)
    obtain ⟨n1, n2, n3, n4, n5, n6, n7⟩ := HBN.out
    obtain ⟨w6, hw6⟩ : ∃ w6, w6 = ((w5.setCell ⟨qb, qo + 3, none⟩ (.pointer (some ⟨b, 0, none⟩))).setCell ⟨j, sl, none⟩ (.pointer (some ⟨b, 0, none⟩))).drew := ⟨_, rfl⟩
    rw [← hw6]
    have C6 : Chg (fun x t => (x = qb ∧ t = qo + 3) ∨ (x = j ∧ t = sl)) w5 w6 := by rw [hw6]; exact (((Chg.refl _ w5).set qb (qo + 3) _ (fun _ => Or.inl ⟨rfl, rfl⟩)).set j sl _ (fun _ => Or.inr ⟨rfl, rfl⟩)).drew
    have k6 : ∀ t v, t ≠ qo + 3 → w5.cell? ⟨qb, t, none⟩ = some v → w6.cell? ⟨qb, t, none⟩ = some v := fun t v ht hc => C6.keep hc (fun e => by rcases e with e | e; exact ht e.2; exact hjq e.1.symm)
    have h3 : w6.cell? ⟨qb, qo + 3, none⟩ = some (.pointer (some ⟨b, 0, none⟩)) := by
      rw [hw6, cell_drew, World.cell?_setCell_other _ _ _ _ (by intro e; cases e; exact hjq rfl)]
      exact World.cell?_setCell_same _ _ _ q3
    have hjl : w6.cell? ⟨j, sl, none⟩ = some (ptr b) := by
      rw [hw6, cell_drew]
      exact World.cell?_setCell_same _ _ _ (by rw [World.cell?_setCell_other _ _ _ _ (by intro e; cases e; exact hjq rfl)]; exact hvj)
    have hL6 := HL5.out.next C6 (fun t e => by rcases e with e | e <;> omega) (fun t e => by rcases e with e | e <;> omega) (fun t e => by rcases e with e | e <;> omega)
    have kq : ∀ t v, t ≠ qo + 3 → t ≠ qo + 4 → t ≠ qo + 6 → w.cell? ⟨qb, t, none⟩ = some v → w6.cell? ⟨qb, t, none⟩ = some v := fun t v h1 h2 h3 hc => k6 t v h1 (HC5.out.keep hc (fun e => by rcases e.2 with e | e; exact h2 e; exact h3 e))
    refine ⟨rfl, gh1 b ja sa j, b, inv1 hL6 (by omega) (by omega) n7, rfl, ?_, k6 _ _ (by omega) (HC35.out.keep HX4.out.1 (fun e => e)), ?_, ?_, fun x hx => ?_, b, hjl⟩
    · obtain ⟨tq, hq0⟩ := HPL.out
      exact ⟨⟨tq, C6.pln _ _ (HC5.out.pln _ _ hq0)⟩, kq _ _ (by omega) (by omega) (by omega) HQC.out.1, kq _ _ (by omega) (by omega) (by omega) HQC.out.2.1, kq _ _ (by omega) (by omega) (by omega) HQC.out.2.2.1, h3⟩
    · obtain ⟨v, hv⟩ := HX4.out.2; exact ⟨v, k6 _ _ (by omega) (HC35.out.keep hv (fun e => e))⟩
    · exact (HC5.out.mono (fun y t _ e => Or.inl ⟨e.1, Or.inr e.2⟩)).trans C6 (fun y t _ e => by rcases e with e | e; exact Or.inl ⟨e.1, Or.inl e.2⟩; exact Or.inr e)
    · show (if x = b then _ else if x = ja then _ else if x = sa then _ else none) = none
      rw [if_neg (by omega), if_neg (by omega), if_neg (by omega)]
end Go.Proofs.YbulkdxqmGreatFmt
