/- LawS6213CWhole: widths.count: one more of a width. -/
import Derived.Test.YbulkdxqmGreatFmtWidth
import Derived.Test.YbulkdxqmGreatFmtInsert
namespace Go.Proofs.YbulkdxqmGreatFmt
set_option linter.unusedVariables false
set_option linter.unusedSimpArgs false
open Go.RowKit

/-- The widths' cells. -/
def wl (ws : List (Int × Int)) : List Value := ws.flatMap fun p => [.int .i64 p.1, .int .i64 p.2]
theorem wl_length : ∀ ws : List (Int × Int), (wl ws).length = ws.length * 2
  | [] => rfl
  | p :: ws => by
    have := wl_length ws
    unfold wl at this ⊢
    rw [List.flatMap_cons, List.length_append, this]; simp; omega
theorem wl_append (a b : List (Int × Int)) : wl (a ++ b) = wl a ++ wl b := by unfold wl; rw [List.flatMap_append]
theorem wl_at : ∀ (ws : List (Int × Int)) (i : Nat) (p : Int × Int), ws[i]? = some p → (wl ws)[i * 2]? = some (.int .i64 p.1) ∧ (wl ws)[i * 2 + 1]? = some (.int .i64 p.2)
  | [], i, p, h => by simp at h
  | q :: ws, 0, p, h => by
    obtain rfl : q = p := by simpa using h
    exact ⟨rfl, rfl⟩
  | q :: ws, i + 1, p, h => by
    obtain ⟨h1, h2⟩ := wl_at ws i p (by simpa using h)
    have e : wl (q :: ws) = .int .i64 q.1 :: .int .i64 q.2 :: wl ws := rfl
    rw [e, show (i + 1) * 2 = i * 2 + 1 + 1 by omega, show i * 2 + 1 + 1 + 1 = (i * 2 + 1) + 1 + 1 by omega]
    simpa using ⟨h1, h2⟩
theorem wl_one (ws : List (Int × Int)) : ∀ v ∈ wl ws, v.oneCell' = true := fun v hv => by
  unfold wl at hv
  obtain ⟨p, _, hp⟩ := List.mem_flatMap.1 hv
  simp at hp
  rcases hp with rfl | rfl <;> rfl
theorem wl_split : ∀ (ws : List (Int × Int)) (t : Nat), t ≤ ws.length → (wl ws).take (t * 2) = wl (ws.take t) ∧ (wl ws).drop (t * 2) = wl (ws.drop t)
  | ws, 0, _ => by simp [wl]
  | [], t + 1, h => by simp at h
  | q :: ws, t + 1, h => by
    obtain ⟨h1, h2⟩ := wl_split ws t (by simpa using h)
    have e : ∀ l, wl (q :: l) = .int .i64 q.1 :: .int .i64 q.2 :: wl l := fun _ => rfl
    rw [e, show (t + 1) * 2 = t * 2 + 1 + 1 by omega, List.take_succ_cons, List.take_succ_cons, h1, List.drop_succ_cons, List.drop_succ_cons, h2, List.take_succ_cons, List.drop_succ_cons, e]
    exact ⟨rfl, rfl⟩
theorem wl_ins (ws : List (Int × Int)) (t : Nat) (v x : Int) (h : t ≤ ws.length) : insL (wl ws) [.int .i64 v, .int .i64 x] (t * 2) = wl (ws.take t ++ (v, x) :: ws.drop t) := by
  obtain ⟨h1, h2⟩ := wl_split ws t h
  unfold insL
  rw [h1, h2, wl_append, show wl ((v, x) :: ws.drop t) = [.int .i64 v, .int .i64 x] ++ wl (ws.drop t) from rfl, List.append_assoc]

/-- The widths at a cell; W: the block that is theirs. -/
structure WAt (w : World) (pb po : Nat) (ws : List (Int × Int)) (W : Nat → Prop) : Prop where
  st : (ws = [] ∧ w.cell? ⟨pb, po, none⟩ = some (.slice none 0 0) ∧ ∀ x, ¬ W x) ∨ ∃ g c, w.cell? ⟨pb, po, none⟩ = some (.slice (some ⟨g, 0, none⟩) ws.length c) ∧ Arr w g 103 2 ws.length c (wl ws) ∧ 0 < ws.length ∧ ∀ x, W x ↔ x = g
theorem WAt.next {w w' : World} {X : Nat → Nat → Prop} {pb po : Nat} {ws : List (Int × Int)} {W : Nat → Prop} (h : WAt w pb po ws W) (hc : Chg X w w') (hp : ¬ X pb po) (hW : ∀ x t, W x → ¬ X x t) : WAt w' pb po ws W := by
  rcases h.st with ⟨h1, h2, h3⟩ | ⟨g, c, h1, h2, h3, h4⟩
  · exact ⟨Or.inl ⟨h1, hc.keep h2 hp, h3⟩⟩
  · exact ⟨Or.inr ⟨g, c, hc.keep h1 hp, h2.next hc (fun t => hW g t ((h4 g).2 rfl)), h3, h4⟩⟩

theorem count_le (v : Int) : ∀ ws : List (Int × Int), ws.Pairwise (fun a b => a.1 < b.1) → ∃ t, t ≤ ws.length ∧ (∀ i p, i < t → ws[i]? = some p → p.1 < v) ∧ (∀ i p, t ≤ i → ws[i]? = some p → v ≤ p.1)
  | [], _ => ⟨0, Nat.le_refl _, fun i k h => by omega, fun i k _ h => by simp at h⟩
  | x :: xs, hp => by
    obtain ⟨h1, h2⟩ := List.pairwise_cons.1 hp
    by_cases hx : x.1 < v
    · obtain ⟨t, t1, t2, t3⟩ := count_le v xs h2
      refine ⟨t + 1, by simp; omega, fun i k hi hk => ?_, fun i k hi hk => ?_⟩
      · cases i with
        | zero => simp at hk; rw [← hk]; exact hx
        | succ i => exact t2 i k (by omega) (by simpa using hk)
      · cases i with
        | zero => omega
        | succ i => exact t3 i k (by omega) (by simpa using hk)
    · refine ⟨0, Nat.zero_le _, fun i k hi => by omega, fun i k _ hk => ?_⟩
      cases i with
      | zero => simp at hk; rw [← hk]; omega
      | succ i =>
        have := h1 k (List.mem_of_getElem? (by simpa using hk))
        omega

/-- slices.Insert of one width, with room or without. -/
theorem ins45_any (base : Option Addr) (g n c t vb : Nat) (ws : List (Int × Int)) (v : Int) (w : World) (hn : n = ws.length) (hst : (n = 0 ∧ base = none ∧ c = 0) ∨ (base = some ⟨g, 0, none⟩ ∧ Arr w g 103 2 n c (wl ws) ∧ 0 < n)) (ht : t ≤ n) (hbig : n ≤ 1000000) (hv : Arr w vb 103 2 1 1 [.int .i64 v, .int .i64 0]) (hvb : vb ≠ g) :
    Calls Ybaz.prog 45 #[.slice base n c, .int .i64 t, .slice (some ⟨vb, 0, none⟩) 1 1] w fun e w' => ∃ g' c', e = .returned (.slice (some ⟨g', 0, none⟩) (n + 1) c') ∧ Arr w' g' 103 2 (n + 1) c' (wl (ws.take t ++ (v, 0) :: ws.drop t)) ∧ (g' = g ∨ w.heap.size ≤ g') ∧ Chg (fun x _ => x = g ∧ 0 < n) w w' := by
  have hw := wl_ins ws t v 0 (by omega)
  rcases hst with ⟨h0, rfl, rfl⟩ | ⟨rfl, hA, hn0⟩
  · obtain rfl : t = 0 := by omega
    have hws : ws = [] := by cases ws with | nil => rfl | cons a b => simp at hn; omega
    subst hws
    rw [h0] at *
    refine (ins45_last none g 0 vb [] [.int .i64 v, .int .i64 0] w (Or.inl ⟨rfl, rfl⟩) (fun j u hj => by simp at hj) rfl (fun u hu => by cases hu) (by omega) hv).mono ?_
    rintro e w' ⟨c', rfl, h1, h2⟩
    exact ⟨w.heap.size, c', rfl, h1, Or.inr (Nat.le_refl _), h2.mono (fun _ _ _ e => False.elim e)⟩
  · by_cases hr : n < c
    · refine (ins45_room g n c t vb (wl ws) [.int .i64 v, .int .i64 0] w hA ht hr hv hvb).mono ?_
      rintro e w' ⟨rfl, h1, h2⟩
      rw [hw] at h1
      exact ⟨g, c, rfl, h1, Or.inl rfl, h2.mono (fun _ _ _ e => ⟨e, hn0⟩)⟩
    · obtain rfl : n = c := by have := hA.nc; omega
      by_cases hin : t = n
      · subst hin
        refine (ins45_last (some ⟨g, 0, none⟩) g t vb (wl ws) [.int .i64 v, .int .i64 0] w (Or.inr rfl) hA.cell hA.len hA.one hbig hv).mono ?_
        rintro e w' ⟨c', rfl, h1, h2⟩
        rw [hw] at h1
        exact ⟨w.heap.size, c', rfl, h1, Or.inr (Nat.le_refl _), h2.mono (fun _ _ _ e => False.elim e)⟩
      · refine (ins45_grow g n t vb (wl ws) [.int .i64 v, .int .i64 0] w hA (by omega) hbig hv).mono ?_
        rintro e w' ⟨c', rfl, h1, h2⟩
        rw [hw] at h1
        exact ⟨w.heap.size, c', rfl, h1, Or.inr (Nat.le_refl _), h2.mono (fun _ _ _ e => False.elim e)⟩

/-- A width's count set. -/
theorem Arr.setW {w : World} {g n c t : Nat} {ws : List (Int × Int)} {v x y : Int} (h : Arr w g 103 2 n c (wl ws)) (ht : ws[t]? = some (v, x)) : Arr (w.setCell ⟨g, t * 2 + 1, none⟩ (.int .i64 y)) g 103 2 n c (wl (ws.set t (v, y))) := by
  have htl : t < ws.length := (List.getElem?_eq_some_iff.1 ht).1
  have cc : Chg (fun b j => b = g ∧ j = t * 2 + 1) w (w.setCell ⟨g, t * 2 + 1, none⟩ (.int .i64 y)) := (Chg.refl _ w).set g (t * 2 + 1) _ (fun _ => ⟨rfl, rfl⟩)
  obtain ⟨a1, a2⟩ := wl_at ws t _ ht
  have hl := wl_length ws
  have hl2 := wl_length (ws.set t (v, y))
  rw [List.length_set] at hl2
  refine ⟨fun j u hj => ?_, fun j hj => cc.has _ _ (h.room j hj), fun j => (cc.froz g j h.lt).trans (h.free j), cc.shp _ _ h.shp, by rw [hl2, ← hl]; exact h.len, h.nc, h.cm, wl_one _⟩
  have hjl := (List.getElem?_eq_some_iff.1 hj).1
  obtain ⟨i, r, hir, hr⟩ : ∃ i r, j = i * 2 + r ∧ r < 2 := ⟨j / 2, j % 2, by omega, by omega⟩
  have hil : i < ws.length := by omega
  by_cases e : i = t
  · subst e
    obtain ⟨b1, b2⟩ := wl_at (ws.set i (v, y)) i (v, y) (by rw [List.getElem?_set_self hil])
    by_cases r0 : r = 0
    · subst r0
      rw [hir, Nat.add_zero] at hj ⊢
      rw [b1] at hj
      rw [← hj]
      exact cc.keep (h.cell _ _ a1) (fun e => by have := e.2; omega)
    · obtain rfl : r = 1 := by omega
      rw [hir] at hj ⊢
      rw [b2] at hj
      rw [← hj]
      exact World.cell?_setCell_same _ _ _ (h.cell _ _ a2)
  · have hi2 : (ws.set t (v, y))[i]? = some ws[i] := by rw [List.getElem?_set_ne (fun e' => e e'.symm), List.getElem?_eq_getElem hil]
    obtain ⟨b1, b2⟩ := wl_at _ i _ hi2
    obtain ⟨d1, d2⟩ := wl_at ws i _ (List.getElem?_eq_getElem hil)
    by_cases r0 : r = 0
    · subst r0
      rw [hir, Nat.add_zero] at hj ⊢
      rw [b1] at hj
      rw [← hj]
      exact cc.keep (h.cell _ _ d1) (fun e' => by have := e'.2; omega)
    · obtain rfl : r = 1 := by omega
      rw [hir] at hj ⊢
      rw [b2] at hj
      rw [← hj]
      exact cc.keep (h.cell _ _ d2) (fun e' => by have := e'.2; omega)

/-- What count makes of the widths. -/
def Counted (ws ws' : List (Int × Int)) (v : Int) : Prop := ∃ t, t ≤ ws.length ∧ (∀ i p, i < t → ws[i]? = some p → p.1 < v) ∧ ((∃ c, ws[t]? = some (v, c) ∧ ws' = ws.set t (v, c + 1)) ∨ ((∀ i p, t ≤ i → ws[i]? = some p → v < p.1) ∧ ws' = ws.take t ++ (v, 1) :: ws.drop t))

theorem asc_at {ws : List (Int × Int)} (h : ws.Pairwise (fun a b => a.1 < b.1)) {i t : Nat} {p q : Int × Int} (hit : t < i) (hi : ws[i]? = some p) (ht : ws[t]? = some q) : q.1 < p.1 := by
  obtain ⟨l1, e1⟩ := List.getElem?_eq_some_iff.1 hi
  obtain ⟨l2, e2⟩ := List.getElem?_eq_some_iff.1 ht
  have := List.pairwise_iff_getElem.1 h t i l2 l1 hit
  rwa [e1, e2] at this

set_option maxHeartbeats 4000000 in
set_option maxRecDepth 100000 in
theorem count16 (pb po : Nat) (ws : List (Int × Int)) (W : Nat → Prop) (v : Int) (w : World) (h : WAt w pb po ws W) (hpl : ∃ t, Plain w pb t) (hWp : ¬ W pb) (hasc : ws.Pairwise (fun a b => a.1 < b.1)) (hbig : ws.length ≤ 1000000) (hc : ∀ p ∈ ws, 0 < p.2 ∧ p.2 ≤ 1000000) :
    Calls Ybaz.prog 16 #[.pointer (some ⟨pb, po, none⟩), .int .i64 v, .int .i64 1] w fun e w' => e = .returned (.tuple #[]) ∧ ∃ ws' W', WAt w' pb po ws' W' ∧ Counted ws ws' v ∧ Chg (fun x t => W x ∨ (x = pb ∧ t = po)) w w' ∧ ∀ x, x < w.heap.size → W' x → W x := by
  obtain ⟨t, ht1, ht2, ht3⟩ := count_le v ws hasc
  obtain ⟨base, g, c, hb⟩ : ∃ base g c, w.cell? ⟨pb, po, none⟩ = some (.slice base ws.length c) ∧ ((ws.length = 0 ∧ base = none ∧ c = 0 ∧ ∀ x, ¬ W x) ∨ (base = some ⟨g, 0, none⟩ ∧ Arr w g 103 2 ws.length c (wl ws) ∧ 0 < ws.length ∧ ∀ x, W x ↔ x = g)) := by
    rcases h.st with ⟨h1, h2, h3⟩ | ⟨g, c, h1, h2, h3, h4⟩
    · exact ⟨none, 0, 0, by rw [h1]; exact h2, Or.inl ⟨by rw [h1]; rfl, rfl, rfl, h3⟩⟩
    · exact ⟨_, g, c, h1, Or.inr ⟨rfl, h2, h3, h4⟩⟩
  obtain ⟨hcell, hst⟩ := hb
  obtain ⟨n, hn⟩ : ∃ n, Hid (n = ws.length) := ⟨_, rfl⟩
  rw [← hn.out] at hcell hst ht1 hbig
  have hsr := search43 base g n c t (fun i => (ws.getD i (0, 0)).1) (fun i => (ws.getD i (0, 0)).2) v w hbig (fun h0 => by rcases hst with ⟨h1, _⟩ | ⟨h1, _⟩; omega; exact h1)
    (fun i hi => by
      rcases hst with ⟨h1, _⟩ | ⟨_, hA, _⟩
      · omega
      · have hil : i < ws.length := by rw [← hn.out]; exact hi
        have e1 : ws.getD i (0, 0) = ws[i] := by simp [List.getD, List.getElem?_eq_getElem hil]
        obtain ⟨d1, d2⟩ := wl_at ws i _ (List.getElem?_eq_getElem hil)
        show w.cell? ⟨g, i * 2, none⟩ = some (.int .i64 (ws.getD i (0, 0)).1) ∧ w.cell? ⟨g, i * 2 + 1, none⟩ = some (.int .i64 (ws.getD i (0, 0)).2)
        rw [e1]
        exact ⟨hA.cell _ _ d1, hA.cell _ _ d2⟩) ht1
    (fun i hi => ht2 i _ hi (by have hil : i < ws.length := by (rw [← hn.out]; omega)
                                simp [List.getD, List.getElem?_eq_getElem hil]))
    (fun i hi hi' => ht3 i _ hi (by have hil : i < ws.length := by (rw [← hn.out]; exact hi')
                                    simp [List.getD, List.getElem?_eq_getElem hil]))
  have HASC : Hid (ws.Pairwise (fun a b => a.1 < b.1)) := hasc
  have HT : Hid ((∀ i p, i < t → ws[i]? = some p → p.1 < v) ∧ (∀ i p, t ≤ i → ws[i]? = some p → v ≤ p.1)) := ⟨ht2, ht3⟩
  have HST : Hid ((n = 0 ∧ base = none ∧ c = 0 ∧ ∀ x, ¬ W x) ∨ (base = some ⟨g, 0, none⟩ ∧ Arr w g 103 2 n c (wl ws) ∧ 0 < n ∧ ∀ x, W x ↔ x = g)) := hst
  have HPL : Hid (∃ t, Plain w pb t) := hpl
  have HCB : Hid (∀ p ∈ ws, 0 < p.2 ∧ p.2 ≤ 1000000) := hc
  have sz := szr103
  have hpw : pb < w.heap.size := World.block_lt_of_cell? _ _ hcell
  clear hasc ht2 ht3 hst h hpl hc
  by_cases hf : t < n ∧ (ws.getD t (0, 0)).1 = v
  · -- it is there
    have hdec : decide (t < n ∧ (ws.getD t (0, 0)).1 = v) = true := by simpa using hf
    have HSR : Hid (Calls Ybaz.prog 43 #[.slice base n c, .int .i64 v, .func (.func 44) #[] #[]] w fun e w' => e = .returned (.tuple #[.int .i64 t, .bool true]) ∧ Below w.heap.size w w') := by
      have := hsr
      simp only [hdec] at this
      exact this
    have htl : t < ws.length := by rw [← hn.out]; exact hf.1
    obtain ⟨x, hx⟩ : ∃ x, ws[t]? = some (v, x) := by
      refine ⟨ws[t].2, ?_⟩
      have e1 : ws.getD t (0, 0) = ws[t] := by simp [List.getD, List.getElem?_eq_getElem htl]
      rw [List.getElem?_eq_getElem htl]
      have := hf.2
      rw [e1] at this
      rw [← this]
    have hxb := HCB.out (v, x) (List.mem_of_getElem? hx)
    have hxb1 : 0 < x := hxb.1
    have hxb2 : x ≤ 1000000 := hxb.2
    obtain ⟨hbase, hA, hn0, hW⟩ : base = some ⟨g, 0, none⟩ ∧ Arr w g 103 2 n c (wl ws) ∧ 0 < n ∧ ∀ y, W y ↔ y = g := by rcases HST.out with ⟨h1, _⟩ | h1; omega; exact h1
    subst hbase
    obtain ⟨d1, d2⟩ := wl_at ws t _ hx
    have a2 := hA.cell _ _ d2
    have fa := hA.free (t * 2 + 1)
    have HA : Hid (Arr w g 103 2 n c (wl ws) ∧ ∀ y, W y ↔ y = g) := ⟨hA, hW⟩
    have HX : Hid (ws[t]? = some (v, x)) := hx
    have hgw : g < w.heap.size := hA.lt
    have hgp : g ≠ pb := fun e => hWp ((hW pb).2 e.symm)
    have k1 : (t : Int) < (n : Int) := by omega
    have k2 : IntKind.i64.wrap (x + 1) = x + 1 := by rw [IntKind.wrap_i64]; omega
    have k3 : ¬ (x + 1 = 0) := by omega
    have k4 : (0 : Int) ≤ (t : Int) := by omega
    clear hsr hdec hf hxb hA hW hx d1 d2 htl
    go_enter Ybaz.func16, Ybaz.ntmps16
    go_upto_if 18 with (first | (go_at_call 43; refine HSR.out.mono ?_; rintro e w1 ⟨rfl, hB1⟩; have HB1 : Hid (Below w.heap.size w w1) := hB1; have b0 := (hB1.cell (p := ⟨pb, po, none⟩) hpw).trans hcell; have b2 := (hB1.cell (p := ⟨g, t * 2 + 1, none⟩) hgw).trans a2; have bf := (World.frozen?_of_block (hB1.block g hgw)).trans fa; clear hB1) | go_in)
    have hz : wrap64 (x + 1) = x + 1 := by unfold wrap64; omega
    go_wp2
    go_end0
    have C1 : Chg S0 w w1 := Chg.of_below HB1.out
    obtain ⟨hA, hW⟩ := HA.out
    have hA1 := (hA.next C1 (fun _ e => e)).setW (y := x + 1) HX.out
    have cc : Chg (fun y j => y = g ∧ j = t * 2 + 1) w1 (w1.setCell ⟨g, t * 2 + 1, none⟩ (.int .i64 (x + 1))) := (Chg.refl _ w1).set g (t * 2 + 1) _ (fun _ => ⟨rfl, rfl⟩)
    refine ⟨rfl, ws.set t (v, x + 1), W, ⟨Or.inr ⟨g, c, ?_, ?_, ?_, hW⟩⟩, ⟨t, by rw [← hn.out]; exact ht1, HT.out.1, Or.inl ⟨x, HX.out, rfl⟩⟩, (C1.mono (fun _ _ _ e => False.elim e)).trans cc (fun y j _ e => Or.inl ((hW y).2 e.1)), fun y _ hy => hy⟩
    · rw [List.length_set, ← hn.out]
      exact cc.keep (C1.keep hcell (fun e => e)) (fun e => hgp e.1.symm)
    · rw [List.length_set, ← hn.out]; exact hA1
    · rw [List.length_set, ← hn.out]; exact hn0
  · -- it is not there
    have hdec : decide (t < n ∧ (ws.getD t (0, 0)).1 = v) = false := by simpa using hf
    have HSR : Hid (Calls Ybaz.prog 43 #[.slice base n c, .int .i64 v, .func (.func 44) #[] #[]] w fun e w' => e = .returned (.tuple #[.int .i64 t, .bool false]) ∧ Below w.heap.size w w') := by
      have := hsr
      simp only [hdec] at this
      exact this
    have HHI : Hid (∀ i p, t ≤ i → ws[i]? = some p → v < p.1) := fun i p hi hp => by
      have h1 := HT.out.2 i p hi hp
      have htl : t < ws.length := by have := (List.getElem?_eq_some_iff.1 hp).1; omega
      have e1 : ws.getD t (0, 0) = ws[t] := by simp [List.getD, List.getElem?_eq_getElem htl]
      have h2 : ws[t].1 ≠ v := fun e => hf ⟨by rw [hn.out]; exact htl, by rw [e1]; exact e⟩
      have h3 := HT.out.2 t _ (Nat.le_refl _) (List.getElem?_eq_getElem htl)
      rcases Nat.eq_or_lt_of_le hi with e | e
      · subst e
        rw [List.getElem?_eq_getElem htl] at hp
        obtain rfl := Option.some.inj hp
        omega
      · have := asc_at HASC.out e hp (List.getElem?_eq_getElem htl)
        omega
    have fp : w.frozen? ⟨pb, po, none⟩ = false := by obtain ⟨tp, hp⟩ := HPL.out; exact hp.free po
    have HG : Hid (0 < n → g < w.heap.size ∧ g ≠ pb) := fun h0 => by
      rcases HST.out with ⟨h1, _⟩ | ⟨_, h2, _, h4⟩
      · omega
      · exact ⟨h2.lt, fun e => hWp ((h4 pb).2 e.symm)⟩
    clear hsr hdec hf
    go_enter Ybaz.func16, Ybaz.ntmps16
    go_upto_if 18 with (first | (go_at_call 43; refine HSR.out.mono ?_; rintro e w1 ⟨rfl, hB1⟩; have HB1 : Hid (Below w.heap.size w w1) := hB1; have b0 := (hB1.cell (p := ⟨pb, po, none⟩) hpw).trans hcell; have bf := (World.frozen?_of_block (hB1.block pb hpw)).trans fp; clear hB1) | go_in)
    have C1 : Chg S0 w w1 := Chg.of_below HB1.out
    have HC1 : Hid (Chg S0 w w1) := C1
    have hpw1 : pb < w1.heap.size := World.block_lt_of_cell? _ _ b0
    obtain ⟨w2, hw2⟩ : ∃ w2, w2 = w1.alloc (.cells #[.int .i64 v, .int .i64 0] 103) := ⟨_, rfl⟩
    have C2 : Chg S0 w1 w2 := by rw [hw2]; exact (Chg.refl S0 w1).alloc _
    have HC2 : Hid (Chg S0 w1 w2) := C2
    have hv2 : Arr w2 w1.heap.size 103 2 1 1 [.int .i64 v, .int .i64 0] := by rw [hw2]; exact Arr.oneK w1 103 2 #[.int .i64 v, .int .i64 0] rfl (by simp [Value.oneCell'])
    obtain ⟨gg, hgg⟩ : ∃ gg, (n = 0 ∧ base = none ∧ c = 0 ∨ (base = some ⟨gg, 0, none⟩ ∧ Arr w2 gg 103 2 n c (wl ws) ∧ 0 < n)) ∧ w1.heap.size ≠ gg ∧ (0 < n → gg = g) ∧ gg ≠ pb ∧ (n = 0 → w1.heap.size < gg) := by
      rcases HST.out with ⟨h1, h2, h3, _⟩ | ⟨h1, h2, h3, _⟩
      · exact ⟨w1.heap.size + 1, Or.inl ⟨h1, h2, h3⟩, by omega, (fun h => by omega), by omega, fun _ => by omega⟩
      · exact ⟨g, Or.inr ⟨h1, (h2.next C1 (fun _ e => e)).next C2 (fun _ e => e), h3⟩, by have := (h2.next C1 (fun _ e => e)).lt; omega, (fun _ => rfl), (HG.out h3).2, fun h => by omega⟩
    have hins := ins45_any base gg n c t w1.heap.size ws v w2 hn.out hgg.1 ht1 hbig hv2 hgg.2.1
    rw [hw2] at hins
    have HGG : Hid (0 < n → gg = g) := hgg.2.2.1
    have hggp : gg ≠ pb := hgg.2.2.2.1
    have HGZ : Hid (n = 0 → w1.heap.size < gg) := hgg.2.2.2.2
    have HINS : Hid (Calls Ybaz.prog 45 #[.slice base n c, .int .i64 t, .slice (some ⟨w1.heap.size, 0, none⟩) 1 1] (w1.alloc (.cells #[.int .i64 v, .int .i64 0] 103)) fun e w' => ∃ g' c', e = .returned (.slice (some ⟨g', 0, none⟩) (n + 1) c') ∧ Arr w' g' 103 2 (n + 1) c' (wl (ws.take t ++ (v, 0) :: ws.drop t)) ∧ (g' = gg ∨ (w1.alloc (.cells #[.int .i64 v, .int .i64 0] 103)).heap.size ≤ g') ∧ Chg (fun x _ => x = gg ∧ 0 < n) (w1.alloc (.cells #[.int .i64 v, .int .i64 0] 103)) w') := hins
    clear hins hv2 hgg C1 C2 hw2 HC2
    go_upto_region 3 with (go_at_call 45; fail)
    refine HINS.out.mono ?_
    rintro e w3 ⟨g', c', rfl, ha3, hg3, hc3⟩
    have HA3 : Hid (Arr w3 g' 103 2 (n + 1) c' (wl (ws.take t ++ (v, 0) :: ws.drop t))) := ha3
    have HG3 : Hid (g' = gg ∨ (w1.alloc (.cells #[.int .i64 v, .int .i64 0] 103)).heap.size ≤ g') := hg3
    have HC3 : Hid (Chg (fun x _ => x = gg ∧ 0 < n) (w1.alloc (.cells #[.int .i64 v, .int .i64 0] 103)) w3) := hc3
    have p3 := hc3.keep (((Chg.refl S0 w1).alloc (.cells #[.int .i64 v, .int .i64 0] 103)).keep b0 (fun e => e)) (fun e => hggp e.1.symm)
    have pf : w3.frozen? ⟨pb, po, none⟩ = false := by
      obtain ⟨tp, hp⟩ := HPL.out
      exact (hc3.pln _ _ (((Chg.refl S0 w1).alloc (.cells #[.int .i64 v, .int .i64 0] 103)).pln _ _ (HC1.out.pln _ _ hp))).free po
    clear ha3 hg3 hc3
    go_upto_region 3 with fail
    obtain ⟨w4, hw4⟩ : ∃ w4, w4 = w3.setCell ⟨pb, po, none⟩ (.slice (some ⟨g', 0, none⟩) (n + 1) c') := ⟨_, rfl⟩
    rw [← hw4]
    have hgp' : g' ≠ pb := by
      rcases HG3.out with e | e
      · rw [e]; exact hggp
      · intro e2; simp at e; omega
    have C4 : Chg (fun x j => x = pb ∧ j = po) w3 w4 := by rw [hw4]; exact (Chg.refl _ w3).set pb po _ (fun _ => ⟨rfl, rfl⟩)
    have hA4 := HA3.out.next C4 (fun j e => hgp' e.1)
    have hx4 : (ws.take t ++ (v, 0) :: ws.drop t)[t]? = some (v, 0) := by
      have hlt : (ws.take t).length = t := by rw [List.length_take, ← hn.out]; omega
      rw [List.getElem?_append_right (by omega), hlt, Nat.sub_self]; rfl
    obtain ⟨d1, d2⟩ := wl_at _ t _ hx4
    have a2 := hA4.cell _ _ d2
    have fa := hA4.free (t * 2 + 1)
    have p4 : w4.cell? ⟨pb, po, none⟩ = some (.slice (some ⟨g', 0, none⟩) (n + 1) c') := by rw [hw4]; exact World.cell?_setCell_same _ _ _ p3
    have HA4 : Hid (Arr w4 g' 103 2 (n + 1) c' (wl (ws.take t ++ (v, 0) :: ws.drop t))) := hA4
    have HX4 : Hid ((ws.take t ++ (v, 0) :: ws.drop t)[t]? = some (v, 0)) := hx4
    have HC4 : Hid (Chg (fun x j => x = pb ∧ j = po) w3 w4) := C4
    have HP4 : Hid (w4.cell? ⟨pb, po, none⟩ = some (.slice (some ⟨g', 0, none⟩) (n + 1) c')) := p4
    have k1 : (t : Int) < (n : Int) + 1 := by omega
    have k1n : t < n + 1 := by omega
    have k4 : (0 : Int) ≤ (t : Int) := by omega
    clear hw4 C4 hA4 hx4 d1 d2 p3 pf b0 bf
    go_wp2
    go_end0
    have hA5 := HA4.out.setW (y := 1) HX4.out
    have cc : Chg (fun y j => y = g' ∧ j = t * 2 + 1) w4 (w4.setCell ⟨g', t * 2 + 1, none⟩ (.int .i64 1)) := (Chg.refl _ w4).set g' (t * 2 + 1) _ (fun _ => ⟨rfl, rfl⟩)
    have hset : (ws.take t ++ (v, 0) :: ws.drop t).set t (v, 1) = ws.take t ++ (v, 1) :: ws.drop t := by
      have hlt : (ws.take t).length = t := by rw [List.length_take, ← hn.out]; omega
      rw [List.set_append_right _ _ (by omega), hlt, Nat.sub_self]; rfl
    rw [hset] at hA5
    have hlen : (ws.take t ++ (v, 1) :: ws.drop t).length = n + 1 := by simp; rw [← hn.out]; omega
    have hWg : 0 < n → ∀ y, W y ↔ y = gg := fun h0 y => by
      rcases HST.out with ⟨h1, _⟩ | ⟨_, _, _, h4⟩
      · omega
      · rw [HGG.out h0]; exact h4 y
    have C03 : Chg (fun x _ => W x) w w3 := ((HC1.out.mono (fun _ _ _ e => False.elim e)).alloc _).trans HC3.out (fun y j _ e => (hWg e.2 y).2 e.1)
    have hold : ∀ y, y < w.heap.size → y = g' → W y := fun y hy e => by
      have h1 := HC1.out.size
      rcases HG3.out with e1 | e1
      · have h0 : 0 < n ∨ n = 0 := by omega
        rcases h0 with h0 | h0
        · exact (hWg h0 y).2 (e.trans e1)
        · have := HGZ.out h0; omega
      · simp at e1; omega
    refine ⟨rfl, ws.take t ++ (v, 1) :: ws.drop t, fun x => x = g', ⟨Or.inr ⟨g', c', ?_, ?_, by omega, fun x => Iff.rfl⟩⟩, ⟨t, by rw [← hn.out]; exact ht1, HT.out.1, Or.inr ⟨HHI.out, rfl⟩⟩, ?_, fun x hx e => ?_⟩
    · rw [hlen]; exact cc.keep HP4.out (fun e => hgp' e.1.symm)
    · rw [hlen]; exact hA5
    · refine ((C03.mono (fun y j _ e => Or.inl e)).trans HC4.out (fun y j _ e => Or.inr e)).trans cc (fun y j hy e => Or.inl (hold y hy e.1))
    · exact hold x hx e
end Go.Proofs.YbulkdxqmGreatFmt
