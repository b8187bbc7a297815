/- LawS6213CWhole: split of an inner block. -/
import Derived.Test.YbulkdxqmGreatFmtTree
import Derived.Test.YbulkdxqmGreatFmtCut
import Derived.Test.YbulkdxqmGreatFmtIdx
namespace Go.Proofs.YbulkdxqmGreatFmt
set_option linter.unusedVariables false
set_option linter.unusedSimpArgs false
open Go.RowKit
attribute [local go_sem] run_store_floatB

/-- A queue's own cells. -/
structure QAt (w : World) (qb qo sl root : Nat) : Prop where
  pl : ∃ t, Plain w qb t
  c0 : w.cell? ⟨qb, qo, none⟩ = some (.func (.func 4) #[] #[])
  c1 : w.cell? ⟨qb, qo + 1, none⟩ = some (.int .i64 sl)
  c2 : w.cell? ⟨qb, qo + 2, none⟩ = some (.bool false)
  c3 : w.cell? ⟨qb, qo + 3, none⟩ = some (.pointer (some ⟨root, 0, none⟩))

theorem mk35 (w : World) : (Instr.makeSlice 35 (.int .i64 0) (.int .i64 9)).run Ybaz.prog w = .ok (.slice (some ⟨w.heap.size, 0, none⟩) 0 9) (w.alloc (.cells (madeCells #[.pointer none] 9) 25)) := by kernel_rfl
theorem upv_ptr (U : Option Nat) : ∃ p, upv U = .pointer p := by cases U <;> exact ⟨_, rfl⟩

/-- A row made by the call and filled. -/
theorem Arr.filled (w1 : World) (g e n c : Nat) (z : Value) (xs : List Value) (hg : g = w1.heap.size) (hl : xs.length = n) (hnc : n ≤ c) (hc : c ≤ 1000) (h1 : ∀ v ∈ xs, v.oneCell' = true) : Arr ((w1.alloc (.cells (madeCells #[z] c) e)).setCells g 0 xs) g e 1 n c xs := by
  subst hg
  have hr := World.rowIs_made w1 z c e
  have hsome : ∀ j, j < c → ((w1.alloc (.cells (madeCells #[z] c) e)).cell? ⟨w1.heap.size, j, none⟩).isSome = true := fun j hj => by rw [hr.cell hj]; rfl
  refine ⟨fun j v hj => ?_, fun j hj => has_setCells _ _ _ _ _ _ (hsome j (by omega)), fun j => by rw [World.frozen?_setCells]; exact hr.frozen j, ?_, by omega, hnc, by omega, h1⟩
  · have hjl := (List.getElem?_eq_some_iff.1 hj).1
    have := World.cell?_setCells_in w1.heap.size xs 0 (w1.alloc (.cells (madeCells #[z] c) e)) (fun t ht => hsome _ (by omega)) j hjl
    rw [Nat.zero_add] at this
    rw [this, ← List.getElem?_eq_getElem]; exact hj
  · refine shape_setCells _ _ _ _ _ _ ?_
    unfold World.shape?
    rw [heap_alloc_new]
    show some (e, (madeCells #[z] c).size) = _
    simp [madeCells]


/-- What split leaves. -/
def SplitPost (w : World) (G : Gh) (qb qo sl : Nat) (e : Ending) (w' : World) : Prop :=
  e = .returned (.tuple #[]) ∧ ∃ G' root', Inv w' G' none root' ∧ G'.flat = G.flat ∧ QAt w' qb qo sl root' ∧ Chg (fun x j => G.R x ≠ none ∨ (x = qb ∧ j = qo + 3)) w w' ∧ ∀ x, x < w.heap.size → (G'.R x = none ↔ G.R x = none)

set_option maxHeartbeats 8000000 in
set_option maxRecDepth 100000 in
theorem split_inner_step (G : Gh) (w : World) (l b u root qb qo sl : Nat) (last : Bool) (hl2 : l + 1 < G.D) (hI : Inv w G (some b) root) (hbL : b ∈ G.L (l + 1)) (hK9 : (G.K b).length = 9) (hUb : G.U b = some u) (hq : QAt w qb qo sl root) (hRq : G.R qb = none)
    (ih : ∀ (G2 : Gh) (w2 : World) (last2 : Bool), G2.D = G.D → Inv w2 G2 (some u) root → u ∈ G2.L (l + 2) → (G2.K u).length = 9 → QAt w2 qb qo sl root → G2.R qb = none → Calls Ybaz.prog 42 #[.pointer (some ⟨qb, qo, none⟩), .pointer (some ⟨u, 0, none⟩), .bool last2] w2 (SplitPost w2 G2 qb qo sl)) :
    Calls Ybaz.prog 42 #[.pointer (some ⟨qb, qo, none⟩), .pointer (some ⟨b, 0, none⟩), .bool last] w (SplitPost w G qb qo sl) := by
  have hD1 : l < G.D := by omega
  have hb := hI.inner l hD1 b hbL
  obtain ⟨ob1, ob2, _⟩ := hI.shape.own (l + 1) (by omega) b hbL
  have hbA : b ≠ G.A b := fun e => by rw [← e, ob1] at ob2; injection ob2 with e2; injection e2 with e3 e4; cases e4
  have hqb : qb ≠ b ∧ qb ≠ G.A b := ⟨(fun e => by rw [e, ob1] at hRq; cases hRq), (fun e => by rw [e, ob2] at hRq; cases hRq)⟩
  have hkid : ∀ k ∈ G.K b, k ≠ b ∧ k ≠ G.A b ∧ k ≠ qb ∧ ∃ u f, NodeAt w u f k := fun k hk => by
    have hkL := hI.shape.kid l hD1 b k hbL hk
    obtain ⟨ok1, _, _⟩ := hI.shape.own l (by omega) k hkL
    refine ⟨fun e => ?_, fun e => ?_, fun e => ?_, _, _, hI.node l (by omega) k hkL⟩
    · have := hI.shape.lev l (l + 1) k (by omega) (by omega) hkL (e ▸ hbL); omega
    · rw [e, ob2] at ok1; injection ok1 with e2; injection e2 with e3 e4; cases e4
    · rw [e, hRq] at ok1; cases ok1
  have hF : ∀ k ∈ G.K b, w.cell? ⟨k, 4, none⟩ = some (ptr (G.F k)) := fun k hk => (hI.node l (by omega) k (hI.shape.kid l hD1 b k hbL hk)).c4
  have hF0 : ∃ k, (G.K b).head? = some k ∧ G.F k = G.F b := by obtain ⟨_, _, k, h1, h2⟩ := hI.shape.inner l hD1 b hbL; exact ⟨k, h1, h2.symm⟩
  have hC : 9 ≤ G.C b := by have := hb.ka.nc; omega
  have HI : Hid (Inv w G (some b) root) := hI
  have HIH : Hid (∀ (G2 : Gh) (w2 : World) (last2 : Bool), G2.D = G.D → Inv w2 G2 (some u) root → u ∈ G2.L (l + 2) → (G2.K u).length = 9 → QAt w2 qb qo sl root → G2.R qb = none → Calls Ybaz.prog 42 #[.pointer (some ⟨qb, qo, none⟩), .pointer (some ⟨u, 0, none⟩), .bool last2] w2 (SplitPost w2 G2 qb qo sl)) := ih
  have HRQ : Hid (G.R qb = none) := hRq
  have HBL : Hid (b ∈ G.L (l + 1)) := hbL
  obtain ⟨FK, hFK⟩ : ∃ FK, Hid (FK = G.F) := ⟨_, rfl⟩
  obtain ⟨U, hU⟩ : ∃ U, Hid (U = G.U b) := ⟨_, rfl⟩
  obtain ⟨F, hFe⟩ : ∃ F, Hid (F = G.F b) := ⟨_, rfl⟩
  obtain ⟨A, hA⟩ : ∃ A, Hid (A = G.A b) := ⟨_, rfl⟩
  obtain ⟨C, hCe⟩ : ∃ C, Hid (C = G.C b) := ⟨_, rfl⟩
  obtain ⟨K, hKe⟩ : ∃ K, Hid (K = G.K b) := ⟨_, rfl⟩
  have HUB : Hid (G.U b = some u) := hUb
  rw [← hU.out, ← hFe.out, ← hA.out, ← hCe.out, ← hKe.out] at hb
  rw [← hKe.out] at hK9 hkid hF hF0
  rw [← hA.out] at hbA hqb hkid
  rw [← hFK.out] at hF hF0
  have hF0' : ∃ k, K.head? = some k ∧ FK k = F := by obtain ⟨k, h1, h2⟩ := hF0; exact ⟨k, h1, by rw [h2, hFe.out, hFK.out]⟩
  clear hF0
  have hF0 := hF0'
  clear hF0'
  rw [← hCe.out] at hC
  have hK := hK9
  clear hK9 ih hI hbL ob1 ob2 hUb hRq
  have q2 := fun (w : World) (a : Option Addr) (n c n' c' : Nat) => Lib.run_eql_slice_nil (P := Ybaz.prog) w _ _ a n c n' c' Ybaz.underlying35
  obtain ⟨at', hat⟩ : ∃ at' : Nat, Hid (at' = if last then 8 else 4) := ⟨_, rfl⟩
  have hat2 : 0 < at' ∧ at' < 9 := by have := hat.out; cases last <;> simp at this <;> omega
  obtain ⟨p, hp⟩ := upv_ptr U
  have c0 := hb.node.c0
  rw [hp] at c0
  have c1 := hb.c1
  rw [hK] at c1
  have HB : Hid (InnerAt w U F A C K b) := hb
  have HKD : Hid (∀ k ∈ K, k ≠ b ∧ k ≠ A ∧ k ≠ qb ∧ ∃ u f, NodeAt w u f k) := hkid
  have HFK : Hid (∀ k ∈ K, w.cell? ⟨k, 4, none⟩ = some (ptr (FK k))) := hF
  have HF0 : Hid (∃ k, K.head? = some k ∧ FK k = F) := hF0
  clear hkid hF hF0
  have HQ : Hid (QAt w qb qo sl root) := hq
  have hbw : b < w.heap.size := hb.node.pl.lt
  have hAw : A < w.heap.size := hb.ka.lt
  have m1 := mk35
  obtain ⟨i0, hi0, hz0, hzs, hzb⟩ := info_parts binfo25
  clear hb hq
  go_enter Ybaz.func42, Ybaz.ntmps42
  go_upto_if 17 with (first | (go_at_call 55; refine (size55_inner b 9 C ⟨A, 0, none⟩ _ c1).mono ?_; rintro e w1 ⟨rfl, hw⟩; obtain rfl : w = w1 := hw.symm) | go_in)
  go_cut [6] from 14 to 17 (fun v wx => v = .int .i64 at' ∧ w = wx)
  case first =>
    cases last with
    | true =>
      go_wp2_with (first | (go_at_call 67; refine (most67_inner b 9 C ⟨A, 0, none⟩ _ c1).mono ?_; rintro e w1 ⟨rfl, hw⟩; obtain rfl : w = w1 := hw.symm) | go_in)
      go_meet
      case rel => exact ⟨by rw [hat.out]; rfl, rfl⟩
    | false =>
      go_wp2
      go_meet
      case rel => exact ⟨by rw [hat.out]; rfl, rfl⟩
  case rest =>
    obtain ⟨rfl, rfl⟩ := hcut
    go_upto_region 14 with fail
    obtain ⟨w1, hw1⟩ : ∃ w1, w1 = w.alloc (.cells #[Value.pointer p, Value.slice none 0 0, Value.slice none 0 0, Value.slice none 0 0, Value.pointer none,
          Value.int IntKind.i64 0, Value.int IntKind.i64 0, Value.int IntKind.i64 0, Value.float FloatKind.f64 0,
          Value.int IntKind.i64 0, Value.int IntKind.i64 0, Value.int IntKind.i64 0, Value.int IntKind.i64 0,
          Value.int IntKind.i64 0, Value.float FloatKind.f64 0, Value.float FloatKind.f64 0,
          Value.float FloatKind.f64 0, Value.float FloatKind.f64 0, Value.float FloatKind.f64 0,
          Value.float FloatKind.f64 0, Value.float FloatKind.f64 0, Value.float FloatKind.f64 0, Value.pointer none,
          Value.bool false] 142) := ⟨_, rfl⟩
    obtain ⟨H, hH⟩ : ∃ H, H = w.heap.size := ⟨_, rfl⟩
    have hz1 : w1.heap.size = H + 1 := by rw [hw1, hH]; simp
    have hcell : ∀ j v, (#[Value.pointer p, Value.slice none 0 0, Value.slice none 0 0, Value.slice none 0 0, Value.pointer none,
          Value.int IntKind.i64 0, Value.int IntKind.i64 0, Value.int IntKind.i64 0, Value.float FloatKind.f64 0,
          Value.int IntKind.i64 0, Value.int IntKind.i64 0, Value.int IntKind.i64 0, Value.int IntKind.i64 0,
          Value.int IntKind.i64 0, Value.float FloatKind.f64 0, Value.float FloatKind.f64 0,
          Value.float FloatKind.f64 0, Value.float FloatKind.f64 0, Value.float FloatKind.f64 0,
          Value.float FloatKind.f64 0, Value.float FloatKind.f64 0, Value.float FloatKind.f64 0, Value.pointer none,
          Value.bool false] : Array Value)[j]? = some v → w1.cell? ⟨H, j, none⟩ = some v := fun j v hj => by
      rw [hw1, hH, cell_of_row _ _ _ _ _ _ (heap_alloc_new _ _)]; exact hj
    have e0 := hcell 0 _ rfl
    have e1 := hcell 1 _ rfl
    have e4 := hcell 4 _ rfl
    have e5 := hcell 5 _ rfl
    have e6 := hcell 6 _ rfl
    have e7 := hcell 7 _ rfl
    have e8 := hcell 8 _ rfl
    have e9 := hcell 9 _ rfl
    have e23 := hcell 23 _ rfl
    have HP1 : Hid (Plain w1 H 142) := ⟨_, by rw [hw1, hH]; exact heap_alloc_new _ _⟩
    have HC1 : Hid (Chg S0 w w1) := by rw [hw1]; exact (Chg.refl S0 w).alloc _
    have d1 := HC1.out.keep c1 id
    have f1 := HP1.out.free 1
    rw [← hw1, ← hH]
    have HH : Hid (H = w.heap.size) := hH
    have hHw : H < w1.heap.size := by omega
    have hb1 : b < w1.heap.size := by omega
    have HE : Hid (w1.cell? ⟨H, 0, none⟩ = some (.pointer p) ∧ w1.cell? ⟨H, 4, none⟩ = some (.pointer none) ∧ Ex4 w1 H 5 ∧ w1.cell? ⟨H, 9, none⟩ = some (.int .i64 0) ∧ w1.cell? ⟨H, 23, none⟩ = some (.bool false)) := ⟨e0, e4, ⟨_, _, _, _, e5, e6, e7, e8⟩, e9, e23⟩
    have hAw1 : A < w1.heap.size := by omega
    have hsrc : ∀ (o : Obj) j u, ((K.map ptr).drop at')[j]? = some u → (w1.alloc o).cell? ((⟨A, at', none⟩ : Addr).add j) = some u := fun o j u hj => by
      rw [Addr.add_lit]
      have hc := HB.out.ka.cell (at' + j) u (by rwa [List.getElem?_drop] at hj)
      exact ((Chg.refl S0 w1).alloc o).keep (HC1.out.keep hc id) id
    have hone : ∀ u ∈ (K.map ptr).drop at', u.oneCell' = true := fun u hu => HB.out.ka.one u (List.mem_of_mem_drop hu)
    have hlen : ((K.map ptr).drop at').length = (9 - at') * 1 := by simp [hK]
    have hsp : ∀ j, j < ((K.map ptr).drop at').length → ((w1.alloc (.cells (madeCells #[.pointer none] 9) 25)).cell? ⟨H + 1, 0 + 0 * 1 + j, none⟩).isSome = true ∧ (w1.alloc (.cells (madeCells #[.pointer none] 9) 25)).frozen? ⟨H + 1, 0 + 0 * 1 + j, none⟩ = false := fun j hj => by
      rw [← hz1]
      have := World.rowIs_made w1 (.pointer none) 9 25
      refine ⟨?_, this.frozen _⟩
      rw [this.cell (by rw [hlen] at hj; omega)]; rfl
    have d1a : ∀ o, (w1.alloc o).cell? ⟨b, 1, none⟩ = some (.slice (some ⟨A, 0, none⟩) 9 C) := fun o => ((Chg.refl S0 w1).alloc o).keep d1 id
    have d1s : ∀ o n vs, ((w1.alloc o).drew.setCells (H + 1) n vs).cell? ⟨b, 1, none⟩ = some (.slice (some ⟨A, 0, none⟩) 9 C) := fun o n vs => by rw [World.cell?_setCells_out _ _ _ _ _ (fun e _ => absurd e (by show b ≠ H + 1; omega))]; exact d1a o
    have e1s : ∀ o n vs, ((w1.alloc o).drew.setCells (H + 1) n vs).cell? ⟨H, 1, none⟩ = some (.slice none 0 0) := fun o n vs => by rw [World.cell?_setCells_out _ _ _ _ _ (fun e _ => absurd e (by show H ≠ H + 1; omega))]; exact ((Chg.refl S0 w1).alloc o).keep e1 id
    have f1s : ∀ o n vs, ((w1.alloc o).drew.setCells (H + 1) n vs).frozen? ⟨H, 1, none⟩ = false := fun o n vs => by rw [World.frozen?_setCells]; exact (((Chg.refl S0 w1).alloc o).froz H 1 (by omega)).trans f1
    have k1 : ¬ (C = at') := by omega
    have k2 : (at' : Int) ≤ 9 := by omega
    have k3 : at' ≤ 9 := by omega
    have HPP : Hid (upv U = .pointer p) := hp
    clear hcell e0 e4 e5 e6 e7 e8 e9 e23 hw1 hH c0 c1 hp
    go_cut [] from 96 to 106 (fun wx => Chg (fun x j => x = H ∧ j = 1) w1 wx ∧ wx.cell? ⟨H, 1, none⟩ = some (.slice (some ⟨H + 1, 0, none⟩) (9 - at') 9) ∧ Arr wx (H + 1) 25 1 (9 - at') 9 ((K.map ptr).drop at'))
    case first =>
      go_region_law (refine step_append_room rfl (.tmp 97) (.tmp 103) 35 rfl 25 i0 1 Ybaz.underlying35 hi0 hzs (H + 1) 0 0 9 (by simp [Act.eval, Act.put, hz1]) ⟨A, at', none⟩ (9 - at') (C - at') ((K.map ptr).drop at') (by simp [Act.eval, Act.put]) hlen (hsrc _) hone (by omega) hsp ?_)
      all_goals (first | go_meet | (go_wp2; go_meet))
      all_goals (case rel => exact ⟨((Chg.setCells (H + 1) _ _ _ (((Chg.refl _ w1).alloc _).drew) (fun hb => absurd hb (by omega))).set H 1 _ (fun _ => ⟨rfl, rfl⟩)), World.cell?_setCell_same _ _ _ (e1s _ _ _), by rw [← drew_setCells]; exact (Arr.filled w1 (H + 1) 25 (9 - at') 9 (.pointer none) ((K.map ptr).drop at') hz1.symm (by rw [hlen, Nat.mul_one]) (by omega) (by omega) hone).next (((Chg.refl (fun x _ => x = H) _).drew).set H 1 _ (fun _ => rfl)) (fun j e => by have : H + 1 = H := e; omega)⟩)
    case rest =>
      rename World => w2
      obtain ⟨hc2, hk2, ha2⟩ := hcut
      have HC2 : Hid (Chg S0 w w2) := HC1.out.trans hc2 (fun x j hx e => by have := e.1; have := HH.out; omega)
      have HCC : Hid (Chg (fun x j => x = H ∧ j = 1) w1 w2) := hc2
      have HKA : Hid (Arr w2 (H + 1) 25 1 (9 - at') 9 ((K.map ptr).drop at')) := ha2
      have g1 := HC2.out.keep HB.out.c1 id
      rw [hK] at g1
      have hz2 := HC2.out.size
      have HS2 : Hid (H + 1 < w2.heap.size) := ha2.lt
      have fA : ∀ j, w2.frozen? ⟨A, at' + j, none⟩ = false := fun j => (HC2.out.froz A _ hAw).trans (HB.out.ka.free _)
      have sA : ∀ j, j < 9 - at' → (w2.cell? ⟨A, at' + j, none⟩).isSome = true := fun j hj => HC2.out.has _ _ (HB.out.ka.room _ (by omega))
      have clr := Lib.run_clear_slice (P := Ybaz.prog) w2 35 25 0 (.pointer none) Ybaz.underlying35 (fun w => by kernel_rfl) rfl rfl A at' (9 - at') (C - at') (by omega) sA (fun j _ => fA j)
      have kb := HB.out.node.pl
      obtain ⟨w3, hw3⟩ : ∃ w3, w3 = w2.setCells A at' (List.replicate (9 - at') (.pointer none)) := ⟨_, rfl⟩
      rw [← hw3] at clr
      have HC3 : Hid (Chg (fun x j => x = A ∧ at' ≤ j) w2 w3) := by rw [hw3]; exact Chg.setCells A _ _ _ (Chg.refl _ w2) (fun _ j _ => ⟨rfl, by omega⟩)
      have g3 := HC3.out.keep g1 (fun e => hbA e.1)
      have fb : w3.frozen? ⟨b, 1, none⟩ = false := (HC3.out.froz b 1 (by omega)).trans ((HC2.out.froz b 1 hbw).trans (kb.free 1))
      clear hc2 ha2 fA sA hsrc hone hlen hsp d1 d1a d1s e1s f1s e1 f1 m1
      clear hw3
      go_upto_region 17 with fail
      obtain ⟨w4, hw4⟩ : ∃ w4, w4 = w3.setCell ⟨b, 1, none⟩ (.slice (some ⟨A, 0, none⟩) at' C) := ⟨_, rfl⟩
      rw [← hw4]
      have HC4 : Hid (Chg (fun x j => (x = A ∧ at' ≤ j) ∨ (x = b ∧ j = 1)) w2 w4) := by
        rw [hw4]
        exact (HC3.out.mono (fun x j _ e => Or.inl e)).set b 1 _ (fun _ => Or.inr ⟨rfl, rfl⟩)
      have g4 : w4.cell? ⟨b, 1, none⟩ = some (.slice (some ⟨A, 0, none⟩) at' C) := by rw [hw4]; exact World.cell?_setCell_same _ _ _ g3
      have hHb : H ≠ b ∧ H ≠ A ∧ H + 1 ≠ b ∧ H + 1 ≠ A := by have := HH.out; omega
      have hk4 := HC4.out.keep hk2 (fun e => by rcases e with e | e; exact hHb.2.1 e.1; exact hHb.1 e.1)
      have HKA4 : Hid (Arr w4 (H + 1) 25 1 (9 - at') 9 ((K.map ptr).drop at')) := HKA.out.next HC4.out (fun j e => by rcases e with e | e; exact hHb.2.2.2 e.1; exact hHb.2.2.1 e.1)
      clear hw4 g1 g3 fb clr kb
      obtain ⟨m, hm⟩ : ∃ m, m = 9 - at' := ⟨_, rfl⟩
      rw [← hm] at hk4
      rw [← hm] at HKA4
      have hm2 : 0 < m ∧ m < 9 := by omega
      have HM : Hid (m = 9 - at') := hm
      clear hm
      obtain ⟨KY, hKY⟩ : ∃ KY, KY = K.drop at' := ⟨_, rfl⟩
      have HKY : Hid (KY = K.drop at') := hKY
      have HYL : Hid (KY.length = m) := by show _ = _; rw [hKY, List.length_drop, hK]; exact HM.out.symm
      have HKA5 : Hid (∀ i k, KY[i]? = some k → w4.cell? ⟨H + 1, i, none⟩ = some (.pointer (some ⟨k, 0, none⟩))) := fun i k hik => HKA4.out.cell i _ (by rw [List.getElem?_drop, List.getElem?_map, ← List.getElem?_drop, ← hKY, hik]; rfl)
      have HKYK : Hid (∀ k ∈ KY, k ∈ K ∧ k < H) := fun k hk => by
        have h1 : k ∈ K := List.mem_of_mem_drop (hKY ▸ hk)
        obtain ⟨_, _, _, u, f, hn⟩ := HKD.out k h1
        exact ⟨h1, by rw [HH.out]; exact hn.pl.lt⟩
      clear hKY
      go_wp2
      go_loopw [127] (fun v wr => ∃ i : Nat, i ≤ m ∧ v = .int .i64 i ∧ Chg (fun x j => x ∈ KY ∧ j = 0) w4 wr ∧ ∀ t k, t < i → KY[t]? = some k → wr.cell? ⟨k, 0, none⟩ = some (ptr H)) (fun v _ => m - (intOf v).toNat)
      case atStart => exact ⟨0, Nat.zero_le _, rfl, Chg.refl _ _, fun t k ht => by omega⟩
      case round =>
        rename World => w5
        obtain ⟨i, hi, rfl, hC5, hd5⟩ := hrel
        by_cases hlt : i < m
        · obtain ⟨k, hk⟩ : ∃ k, KY[i]? = some k := ⟨KY[i]'(by have := HYL.out; omega), List.getElem?_eq_getElem _⟩
          have hkm : k ∈ KY := List.mem_of_getElem? hk
          have x1 := hC5.keep (HKA5.out i k hk) (fun e => by have := (HKYK.out _ e.1).2; omega)
          have l1 : (i : Int) < (m : Int) := by omega
          obtain ⟨n1, n2, n3, u, f, hn⟩ := HKD.out k (HKYK.out k hkm).1
          have y0 : w4.cell? ⟨k, 0, none⟩ = some (upv u) := HC4.out.keep (HC2.out.keep hn.c0 id) (fun e => by rcases e with e | e; exact n2 e.1; exact n1 e.1)
          obtain ⟨v0, hv0⟩ := Option.isSome_iff_exists.1 (hC5.has k 0 (by rw [y0]; rfl))
          have y1 : w5.frozen? ⟨k, 0, none⟩ = false := (hC5.froz k 0 (World.block_lt_of_cell? _ _ y0)).trans ((HC4.out.froz k 0 (by have := (HKYK.out k hkm).2; have := HS2.out; omega)).trans ((HC2.out.froz k 0 hn.pl.lt).trans (hn.pl.free 0)))
          have HC5 : Hid (Chg (fun x j => x ∈ KY ∧ j = 0) w4 w5) := hC5
          have HD5 : Hid (∀ t k, t < i → KY[t]? = some k → w5.cell? ⟨k, 0, none⟩ = some (ptr H)) := hd5
          have HKK : Hid (KY[i]? = some k) := hk
          have HKM : Hid (k ∈ KY) := hkm
          clear hC5 hd5 hk hkm y0
          go_wp2
          go_roundw
          case rel =>
            refine ⟨i + 1, by omega, by go_num, HC5.out.set k 0 _ (fun _ => ⟨HKM.out, rfl⟩), fun t k2 ht hk2' => ?_⟩
            by_cases e : k2 = k
            · subst e; exact World.cell?_setCell_same _ _ _ hv0
            · rw [World.cell?_setCell_other _ _ _ _ (by intro e2; cases e2; exact e rfl)]
              refine HD5.out t k2 (Nat.lt_of_le_of_ne (by omega) ?_) hk2'
              rintro rfl
              rw [HKK.out] at hk2'
              exact e (Option.some.inj hk2').symm
          case measure => simp [intOf]; omega
        · have him : m = i := by omega
          subst him
          have HC5 : Hid (Chg (fun x j => x ∈ KY ∧ j = 0) w4 w5) := hC5
          have HD5 : Hid (∀ k ∈ KY, w5.cell? ⟨k, 0, none⟩ = some (ptr H)) := fun k hk => by
            obtain ⟨t, ht, e⟩ := List.getElem_of_mem hk
            exact hd5 t k (by have := HYL.out; omega) (by rw [← e]; exact List.getElem?_eq_getElem ht)
          clear hC5 hd5
          have CW5 : Chg (fun x j => (x = A ∧ at' ≤ j) ∨ (x = b ∧ j = 1) ∨ (x ∈ KY ∧ j = 0)) w w5 :=
            ((HC2.out.mono (fun _ _ _ e => False.elim e)).trans HC4.out (fun x j _ e => by rcases e with e | e; exact Or.inl e; exact Or.inr (Or.inl e))).trans HC5.out (fun x j _ e => Or.inr (Or.inr e))
          have HW5 : Hid (Chg (fun x j => (x = A ∧ at' ≤ j) ∨ (x = b ∧ j = 1) ∨ (x ∈ KY ∧ j = 0)) w w5) := CW5
          have bKY : b ∉ KY := fun e => (HKD.out b (HKYK.out b e).1).1 rfl
          have qKY : qb ∉ KY := fun e => (HKD.out qb (HKYK.out qb e).1).2.2.1 rfl
          have AKY : A ∉ KY := fun e => (HKD.out A (HKYK.out A e).1).2.1 rfl
          have keepb : ∀ j v, j ≠ 1 → w.cell? ⟨b, j, none⟩ = some v → w5.cell? ⟨b, j, none⟩ = some v := fun j v hj hc => CW5.keep hc (fun e => by rcases e with e | e | e; exact hbA e.1; exact hj e.2; exact bKY e.1)
          have keepq : ∀ j v, w.cell? ⟨qb, j, none⟩ = some v → w5.cell? ⟨qb, j, none⟩ = some v := fun j v hc => CW5.keep hc (fun e => by rcases e with e | e | e; exact hqb.2 e.1; exact hqb.1 e.1; exact qKY e.1)
          have keepk : ∀ k ∈ K, ∀ j v, j ≠ 0 → w.cell? ⟨k, j, none⟩ = some v → w5.cell? ⟨k, j, none⟩ = some v := fun k hk j v hj hc => CW5.keep hc (fun e => by rcases e with e | e | e; exact (HKD.out k hk).2.1 e.1; exact (HKD.out k hk).1 e.1; exact hj e.2)
          have kI : ∀ k ∈ K, I64 w5 k 9 := fun k hk => by obtain ⟨_, _, _, u, f, hn⟩ := HKD.out k hk; obtain ⟨x, hx⟩ := hn.c9; exact ⟨x, keepk k hk 9 _ (by omega) hx⟩
          have kS : ∀ k ∈ K, Sp w5 k 5 := fun k hk => by
            obtain ⟨_, _, _, u, f, hn⟩ := HKD.out k hk
            exact CW5.sp hn.sp (fun j h1 h2 e => by rcases e with e | e | e; exact (HKD.out k hk).2.1 e.1; exact (HKD.out k hk).1 e.1; have := e.2; omega)
          have kA : ∀ i k, i < at' → K[i]? = some k → w5.cell? ⟨A, i, none⟩ = some (.pointer (some ⟨k, 0, none⟩)) := fun i k hi' hik => CW5.keep (HB.out.ka.cell i _ (by rw [List.getElem?_map, hik]; rfl)) (fun e => by rcases e with e | e | e; have := e.2; omega; exact hbA e.1.symm; exact AKY e.1)
          have b1 : w5.cell? ⟨b, 1, none⟩ = some (.slice (some ⟨A, 0, none⟩) at' C) := HC5.out.keep g4 (fun e => bKY e.1)
          have hKget : ∀ i, i < 9 → ∃ k, K[i]? = some k ∧ K.getD i 0 = k ∧ k ∈ K := fun i hi' => by
            have hil : i < K.length := by omega
            exact ⟨K[i], List.getElem?_eq_getElem hil, by simp [List.getD, List.getElem?_eq_getElem hil], List.getElem_mem hil⟩
          have hsum1 := sum68_inner qb qo b A F at' (at' - 1) C (fun i => K.getD i 0) w5 (by omega) (by omega) (by omega) (keepq _ _ HQ.out.c2) hqb.1 b1 ⟨_, keepb 4 _ (by omega) HB.out.node.c4⟩
            (by obtain ⟨x, y, z, z1, z2, z3, z4⟩ := HB.out.node.sp; exact ⟨_, _, _, _, keepb _ _ (by omega) z1, keepb _ _ (by omega) z2, keepb _ _ (by omega) z3, keepb _ _ (by omega) z4⟩)
            (by obtain ⟨x, hx⟩ := HB.out.node.c9; exact ⟨x, keepb 9 _ (by omega) hx⟩) (fun j => (CW5.froz b j hbw).trans (HB.out.node.pl.free j))
            (fun i hi' => by obtain ⟨k, e1, e2, e3⟩ := hKget i (by omega); show w5.cell? ⟨A, i, none⟩ = some (.pointer (some ⟨K.getD i 0, 0, none⟩)) ∧ I64 w5 (K.getD i 0) 9 ∧ Sp w5 (K.getD i 0) 5 ∧ K.getD i 0 ≠ b; rw [e2]; exact ⟨kA i k hi' e1, kI k e3, kS k e3, (HKD.out k e3).1⟩)
            (by obtain ⟨k, e1, e2⟩ := HF0.out; obtain ⟨k', f1, f2, f3⟩ := hKget 0 (by omega); obtain rfl : k' = k := by rw [List.head?_eq_getElem?, f1] at e1; exact Option.some.inj e1
                show w5.cell? ⟨K.getD 0 0, 4, none⟩ = _; rw [f2, ← e2]; exact keepk k' f3 4 _ (by omega) (HFK.out k' f3)) (fun e => hbA e.symm)
          have HSUM1 : Hid (Calls Ybaz.prog 68 #[.pointer (some ⟨qb, qo, none⟩), .pointer (some ⟨b, 0, none⟩)] w5 fun e w' => e = .returned (.tuple #[]) ∧ Chg (S49 b) w5 w' ∧ Summed w' b F) := hsum1
          clear hsum1
          have HKG : Hid (∀ i, i < 9 → ∃ k, K[i]? = some k ∧ K.getD i 0 = k ∧ k ∈ K) := hKget
          have HKI : Hid (∀ k ∈ K, I64 w5 k 9) := kI
          have HKS : Hid (∀ k ∈ K, Sp w5 k 5) := kS
          have HKEEPQ : Hid (∀ j v, w.cell? ⟨qb, j, none⟩ = some v → w5.cell? ⟨qb, j, none⟩ = some v) := keepq
          have HKEEPK : Hid (∀ k ∈ K, ∀ j v, j ≠ 0 → w.cell? ⟨k, j, none⟩ = some v → w5.cell? ⟨k, j, none⟩ = some v) := keepk
          have HKEEPB : Hid (∀ j v, j ≠ 1 → w.cell? ⟨b, j, none⟩ = some v → w5.cell? ⟨b, j, none⟩ = some v) := keepb
          have HKAA : Hid (∀ i k, i < at' → K[i]? = some k → w5.cell? ⟨A, i, none⟩ = some (.pointer (some ⟨k, 0, none⟩))) := kA
          have HB1 : Hid (w5.cell? ⟨b, 1, none⟩ = some (.slice (some ⟨A, 0, none⟩) at' C)) := b1
          have HNB : Hid (b ∉ KY ∧ qb ∉ KY ∧ A ∉ KY) := ⟨bKY, qKY, AKY⟩
          have HHK : Hid (H ∉ KY ∧ H + 1 ∉ KY) := ⟨fun e => by have := (HKYK.out _ e).2; omega, fun e => by have := (HKYK.out _ e).2; omega⟩
          have hkH : ∀ j v, j ≠ 1 → w1.cell? ⟨H, j, none⟩ = some v → w5.cell? ⟨H, j, none⟩ = some v := fun j v hj hc => HC5.out.keep (HC4.out.keep (HCC.out.keep hc (fun e => hj e.2)) (fun e => by rcases e with e | e; exact hHb.2.1 e.1; exact hHb.1 e.1)) (fun e => HHK.out.1 e.1)
          have hH1 : w5.cell? ⟨H, 1, none⟩ = some (.slice (some ⟨H + 1, 0, none⟩) m 9) := HC5.out.keep hk4 (fun e => HHK.out.1 e.1)
          have hHY : ∀ i k, KY[i]? = some k → w5.cell? ⟨H + 1, i, none⟩ = some (.pointer (some ⟨k, 0, none⟩)) := fun i k hik => HC5.out.keep (HKA5.out i k hik) (fun e => HHK.out.2 e.1)
          have HPH : Hid (Plain w5 H 142) := HC5.out.pln _ _ (HC4.out.pln _ _ (HCC.out.pln _ _ HP1.out))
          obtain ⟨kc, hkc⟩ : ∃ kc, KY.head? = some kc := by
            cases hY : KY with
            | nil => have := HYL.out; rw [hY] at this; simp at this; omega
            | cons y ys => exact ⟨y, rfl⟩
          have HKC : Hid (KY.head? = some kc) := hkc
          have hkcm : kc ∈ KY := List.mem_of_mem_head? hkc
          have HHH : Hid ((∀ j v, j ≠ 1 → w1.cell? ⟨H, j, none⟩ = some v → w5.cell? ⟨H, j, none⟩ = some v) ∧ w5.cell? ⟨H, 1, none⟩ = some (.slice (some ⟨H + 1, 0, none⟩) m 9) ∧ ∀ i k, KY[i]? = some k → w5.cell? ⟨H + 1, i, none⟩ = some (.pointer (some ⟨k, 0, none⟩))) := ⟨hkH, hH1, hHY⟩
          clear hKget kI kS keepq keepk keepb kA b1 bKY qKY AKY hkH hH1 hHY hkc CW5
          go_upto_region 23 with (go_at_call 68; refine HSUM1.out.mono ?_; rintro e w6 ⟨rfl, hC6, hS6⟩; have HC6 : Hid (Chg (S49 b) w5 w6) := hC6; have HS6 : Hid (Summed w6 b F) := hS6; clear hC6 hS6)
          have nb6 : ∀ x j v, x ≠ b → w5.cell? ⟨x, j, none⟩ = some v → w6.cell? ⟨x, j, none⟩ = some v := fun x j v hx hc => HC6.out.keep hc (fun e => hx e.1)
          have hYget : ∀ i, i < m → ∃ k, KY[i]? = some k ∧ KY.getD i 0 = k ∧ k ∈ KY := fun i hi' => by
            have hil : i < KY.length := by have := HYL.out; omega
            exact ⟨KY[i], List.getElem?_eq_getElem hil, by simp [List.getD, List.getElem?_eq_getElem hil], List.getElem_mem hil⟩
          obtain ⟨hh1, hh2, hh3⟩ := HHH.out
          obtain ⟨q0, q4, ⟨v5, v6, v7, v8, q5, q6, q7, q8⟩, q9, q23⟩ := HE.out
          have kbne : ∀ k ∈ KY, k ≠ b := fun k hk e => HNB.out.1 (e ▸ hk)
          have hsum2 := sum68_inner qb qo H (H + 1) (FK kc) m (m - 1) 9 (fun i => KY.getD i 0) w6 (by omega) (by omega) (by omega) (nb6 _ _ _ hqb.1 (HKEEPQ.out _ _ HQ.out.c2)) (by obtain ⟨t, ht⟩ := HQ.out.pl; have := ht.lt; have := HH.out; omega) (nb6 _ _ _ hHb.1 hh2) ⟨_, nb6 _ _ _ hHb.1 (hh1 4 _ (by omega) q4)⟩
            ⟨_, _, _, _, nb6 _ _ _ hHb.1 (hh1 5 _ (by omega) q5), nb6 _ _ _ hHb.1 (hh1 6 _ (by omega) q6), nb6 _ _ _ hHb.1 (hh1 7 _ (by omega) q7), nb6 _ _ _ hHb.1 (hh1 8 _ (by omega) q8)⟩
            ⟨_, nb6 _ _ _ hHb.1 (hh1 9 _ (by omega) q9)⟩ (fun j => (HC6.out.froz H j HPH.out.lt).trans (HPH.out.free j))
            (fun i hi' => by
              obtain ⟨k, e1, e2, e3⟩ := hYget i hi'
              show w6.cell? ⟨H + 1, i, none⟩ = some (.pointer (some ⟨KY.getD i 0, 0, none⟩)) ∧ I64 w6 (KY.getD i 0) 9 ∧ Sp w6 (KY.getD i 0) 5 ∧ KY.getD i 0 ≠ H
              rw [e2]
              refine ⟨nb6 _ _ _ hHb.2.2.1 (hh3 i k e1), ?_, HC6.out.sp (HKS.out k (HKYK.out k e3).1) (fun j _ _ e => kbne k e3 e.1), fun e => HHK.out.1 (e ▸ e3)⟩
              obtain ⟨x, hx⟩ := HKI.out k (HKYK.out k e3).1
              exact ⟨x, nb6 _ _ _ (kbne k e3) hx⟩)
            (by
              obtain ⟨k', f1, f2, f3⟩ := hYget 0 (by omega)
              obtain rfl : k' = kc := by have := HKC.out; rw [List.head?_eq_getElem?, f1] at this; exact Option.some.inj this
              show w6.cell? ⟨KY.getD 0 0, 4, none⟩ = _
              rw [f2]
              exact nb6 _ _ _ (kbne k' f3) (HKEEPK.out k' (HKYK.out k' f3).1 4 _ (by omega) (HFK.out k' (HKYK.out k' f3).1))) (by omega)
          have HSUM2 : Hid (Calls Ybaz.prog 68 #[.pointer (some ⟨qb, qo, none⟩), .pointer (some ⟨H, 0, none⟩)] w6 fun e w' => e = .returned (.tuple #[]) ∧ Chg (S49 H) w6 w' ∧ Summed w' H (FK kc)) := hsum2
          clear hsum2 nb6 hYget hh1 hh2 hh3 q0 q4 q5 q6 q7 q8 q9 q23 kbne
          go_upto_region 24 with (go_at_call 68; refine HSUM2.out.mono ?_; rintro e w7 ⟨rfl, hC7, hS7⟩; have HC7 : Hid (Chg (S49 H) w6 w7) := hC7; have HS7 : Hid (Summed w7 H (FK kc)) := hS7; clear hC7 hS7)
          have CW7 : Chg (fun x j => (x = A ∧ at' ≤ j) ∨ (x = b ∧ (j = 1 ∨ (4 ≤ j ∧ j ≤ 9))) ∨ (x ∈ KY ∧ j = 0)) w w7 :=
            ((HW5.out.mono (fun x j _ e => by rcases e with e | e | e; exact Or.inl e; exact Or.inr (Or.inl ⟨e.1, Or.inl e.2⟩); exact Or.inr (Or.inr e))).trans HC6.out (fun x j _ e => Or.inr (Or.inl ⟨e.1, Or.inr e.2⟩))).trans HC7.out (fun x j hx e => by have := e.1; have := HH.out; omega)
          have HW7 : Hid (Chg (fun x j => (x = A ∧ at' ≤ j) ∨ (x = b ∧ (j = 1 ∨ (4 ≤ j ∧ j ≤ 9))) ∨ (x ∈ KY ∧ j = 0)) w w7) := CW7
          have b0 : w7.cell? ⟨b, 0, none⟩ = some (.pointer (some ⟨u, 0, none⟩)) := by
            have h1 := HB.out.node.c0
            rw [hU.out, HUB.out] at h1
            exact CW7.keep h1 (fun e => by rcases e with e | e | e; exact hbA e.1; have := e.2; omega; exact HNB.out.1 e.1)
          have huL : u ∈ G.L (l + 2) ∧ b ∈ G.K u := by
            have h2 : b ∈ (G.L (l + 2)).flatMap G.K := by rw [HI.out.shape.chain (l + 1) hl2]; exact HBL.out
            obtain ⟨x, hx1, hx2⟩ := List.mem_flatMap.1 h2
            have h3 := HI.out.shape.up (l + 1) hl2 x hx1 b hx2
            rw [HUB.out] at h3
            obtain rfl : u = x := Option.some.inj h3
            exact ⟨hx1, hx2⟩
          have hub : u ≠ b := by
            rintro rfl
            have := HI.out.shape.lev (l + 2) (l + 1) u (by omega) (by omega) huL.1 HBL.out
            omega
          have hKYL : ∀ k ∈ KY, k ∈ G.L l := fun k hk => HI.out.shape.kid l hD1 b k HBL.out (hKe.out ▸ (HKYK.out k hk).1)
          have hap := HI.out.shape.apart (by omega) (by omega) HBL.out huL.1 hub
          rw [← hA.out] at hap
          have huKY : u ∉ KY := fun e => by
            have := HI.out.shape.lev (l + 2) l u (by omega) (by omega) huL.1 (hKYL u e)
            omega
          have hAuKY : G.A u ∉ KY := fun e => by
            obtain ⟨o1, _, _⟩ := HI.out.shape.own l (by omega) _ (hKYL _ e)
            obtain ⟨_, o2, _⟩ := HI.out.shape.own (l + 2) (by omega) u huL.1
            rw [o2] at o1; injection o1 with e2; injection e2 with e3 e4; cases e4
          have hu7 := (HI.out.inner (l + 1) hl2 u huL.1).next HW7.out (fun j e => by rcases e with e | e | e; exact hap.2.2 e.1; exact hub e.1; exact huKY e.1) (fun j e => by rcases e with e | e | e; exact hap.2.1 e.1; exact hap.1 e.1; exact hAuKY e.1)
          obtain ⟨Ku, hKu⟩ : ∃ Ku, Hid (Ku = G.K u) := ⟨_, rfl⟩
          obtain ⟨Au, hAu⟩ : ∃ Au, Hid (Au = G.A u) := ⟨_, rfl⟩
          obtain ⟨Cu, hCu⟩ : ∃ Cu, Hid (Cu = G.C u) := ⟨_, rfl⟩
          rw [← hKu.out, ← hAu.out, ← hCu.out] at hu7
          have HU7 : Hid (InnerAt w7 (G.U u) (G.F u) Au Cu Ku u) := hu7
          have hin := HI.out.shape.inner (l + 1) hl2 u huL.1
          have hov : ov (some b) u = 0 := by unfold ov; rw [if_neg (by intro e; exact hub (Option.some.inj e).symm)]
          rw [hov, ← hKu.out] at hin
          have hKun : Ku.Nodup := by
            rw [hKu.out]
            have := HI.out.shape.nd (l + 1) (by omega)
            rw [← HI.out.shape.chain (l + 1) hl2] at this
            exact nodup_part this u huL.1
          obtain ⟨t, htl, hte⟩ := List.getElem_of_mem (show b ∈ Ku by rw [hKu.out]; exact huL.2)
          obtain ⟨n, hn⟩ : ∃ n, n = Ku.length := ⟨_, rfl⟩
          have u1 := hu7.c1
          rw [← hn] at u1
          have hnn : 0 < n ∧ n ≤ 8 ∧ t < n := ⟨by omega, by omega, by omega⟩
          have hkp : ∀ i, i < n → w7.cell? ⟨Au, i, none⟩ = some (.pointer (some ⟨Ku.getD i 0, 0, none⟩)) ∧ Plain w7 (Ku.getD i 0) 142 := fun i hi' => by
            have hil : i < Ku.length := by omega
            have e1 : Ku.getD i 0 = Ku[i] := by simp [List.getD, List.getElem?_eq_getElem hil]
            rw [e1]
            refine ⟨hu7.ka.cell i _ (by rw [List.getElem?_map, List.getElem?_eq_getElem hil]; rfl), HW7.out.pln _ _ (HI.out.node (l + 1) (by omega) _ (HI.out.shape.kid (l + 1) hl2 u _ huL.1 (by rw [← hKu.out]; exact List.getElem_mem hil))).pl⟩
          have hidx := index69 Au n Cu t b (fun i => Ku.getD i 0) w7 (by omega) hnn.2.2 hkp (fun i hi' => by
            show Ku.getD i 0 ≠ b
            have hil : i < Ku.length := by omega
            have e1 : Ku.getD i 0 = Ku[i] := by simp [List.getD, List.getElem?_eq_getElem hil]
            rw [e1, ← hte]
            intro e
            exact (List.pairwise_iff_getElem.1 hKun i t hil htl hi') e) (by show Ku.getD t 0 = b; simp [List.getD, List.getElem?_eq_getElem htl, hte])
          have HIDX : Hid (Calls Ybaz.prog 69 #[.slice (some ⟨Au, 0, none⟩) n Cu, .pointer (some ⟨b, 0, none⟩)] w7 fun e w' => e = .returned (.int .i64 t) ∧ ∃ q, w' = w7.drewN q) := hidx
          have HTE : Hid (Ku[t]? = some b) := by show _ = _; rw [List.getElem?_eq_getElem htl, hte]
          have HN : Hid (n = Ku.length) := hn
          have HUL : Hid (u ∈ G.L (l + 2) ∧ b ∈ G.K u ∧ u ≠ b ∧ u ∉ KY ∧ Au ∉ KY ∧ Ku.Nodup) := ⟨huL.1, huL.2, hub, huKY, by rw [hAu.out]; exact hAuKY, hKun⟩
          have hw : IntKind.i64.wrap ((t : Int) + 1) = (t : Int) + 1 := by rw [IntKind.wrap_i64]; omega
          clear CW7 hap hidx hkp hin hov hu7 hn htl hte huL hub huKY hAuKY hKun hKYL
          go_upto_region 30 with (go_at_call 69; refine HIDX.out.mono ?_; rintro e w8 ⟨rfl, q8, hw8⟩; have HW8 : Hid (w8 = w7.drewN q8) := hw8; clear hw8)
          have HC8 : Hid (Chg S0 w7 w8) := by show Chg S0 w7 w8; rw [HW8.out]; exact (Chg.refl S0 w7).drewN q8
          have HU8 : Hid (InnerAt w8 (G.U u) (G.F u) Au Cu Ku u) := HU7.out.next HC8.out (fun _ => id) (fun _ => id)
          have u8 := HC8.out.keep u1 id
          obtain ⟨w9, hw9⟩ : ∃ w9, w9 = w8.alloc (.cells #[.pointer (some ⟨H, 0, none⟩)] 25) := ⟨_, rfl⟩
          have HC9 : Hid (Chg S0 w8 w9) := by show Chg S0 w8 w9; rw [hw9]; exact (Chg.refl S0 w8).alloc _
          have HV9 : Hid (Arr w9 w8.heap.size 25 1 1 1 [ptr H]) := by show Arr _ _ _ _ _ _ _; rw [hw9]; exact Arr.one1 w8 25 _ rfl
          have hAu8 : Au < w8.heap.size := HU8.out.ka.lt
          have hins := ins70_any Au n Cu (t + 1) w8.heap.size (Ku.map ptr) [ptr H] w9 (by rw [HN.out]; exact HU8.out.ka.next HC9.out (fun _ => id)) (by omega) hnn.1 (by omega) HV9.out (by omega)
          rw [ins_rep b H t Ku HUL.out.2.2.2.2.2 HTE.out, hw9, Int.natCast_add, Int.natCast_one] at hins
          have HINS : Hid (Calls Ybaz.prog 70 #[.slice (some ⟨Au, 0, none⟩) n Cu, .int .i64 ((t : Int) + 1), .slice (some ⟨w8.heap.size, 0, none⟩) 1 1] (w8.alloc (.cells #[.pointer (some ⟨H, 0, none⟩)] 25)) _) := hins
          clear hins
          have hu8 : u < w8.heap.size := HU8.out.node.pl.lt
          clear u1
          have huAu : u ≠ Au := by
            obtain ⟨o1, o2, _⟩ := HI.out.shape.own (l + 2) (by omega) u HUL.out.1
            intro e
            rw [← hAu.out, ← e, o1] at o2
            injection o2 with e2; injection e2 with e3 e4; cases e4
          go_upto_region 31 with (go_at_call 70; refine HINS.out.mono ?_; rintro e w10 ⟨g', c', rfl, ha10, hg10, hc10⟩; have HA10 : Hid (Arr w10 g' 25 1 (n + 1) c' ((rep b H Ku).map ptr)) := ha10; have HG10 : Hid (g' = Au ∨ (w8.alloc (.cells #[.pointer (some ⟨H, 0, none⟩)] 25)).heap.size ≤ g') := hg10; have HC10 : Hid (Chg (fun x _ => x = Au) (w8.alloc (.cells #[.pointer (some ⟨H, 0, none⟩)] 25)) w10) := hc10; have uu := hc10.keep (((Chg.refl S0 w8).alloc (.cells #[.pointer (some ⟨H, 0, none⟩)] 25)).keep u8 id) (fun e => huAu e); have fu : w10.frozen? ⟨u, 1, none⟩ = false := (hc10.pln _ _ (((Chg.refl S0 w8).alloc (.cells #[.pointer (some ⟨H, 0, none⟩)] 25)).pln _ _ HU8.out.node.pl)).free 1; clear ha10 hg10 hc10)
          obtain ⟨w11, hw11⟩ : ∃ w11, w11 = w10.setCell ⟨u, 1, none⟩ (.slice (some ⟨g', 0, none⟩) (n + 1) c') := ⟨_, rfl⟩
          rw [← hw11]
          have CA : Chg (fun x j => x = Au ∨ (x = u ∧ j = 1)) w8 w11 := by
            rw [hw11]
            exact ((((Chg.refl _ w8).alloc _).trans HC10.out (fun x j _ e => Or.inl e)).set u 1 _ (fun _ => Or.inr ⟨rfl, rfl⟩))
          have HCA : Hid (Chg (fun x j => x = Au ∨ (x = u ∧ j = 1)) w7 w11) := (HC8.out.mono (fun _ _ _ e => False.elim e)).trans CA (fun _ _ _ e => e)
          have CT : Chg (XI A at' b u Au KY) w w11 := (HW7.out.mono (fun x j _ e => by rcases e with e | e | e; exact Or.inl e; exact Or.inr (Or.inl e); exact Or.inr (Or.inr (Or.inl e)))).trans HCA.out (fun x j _ e => by rcases e with e | e; exact Or.inr (Or.inr (Or.inr (Or.inl e))); exact Or.inr (Or.inr (Or.inr (Or.inr e))))
          have HCT : Hid (Chg (XI A at' b u Au KY) w w11) := CT
          have U1 : w11.cell? ⟨u, 1, none⟩ = some (.slice (some ⟨g', 0, none⟩) (n + 1) c') := by rw [hw11]; exact World.cell?_setCell_same _ _ _ uu
          have HAu11 : Hid (Arr w11 g' 25 1 (n + 1) c' ((rep b H Ku).map ptr)) := by
            show Arr _ _ _ _ _ _ _
            rw [hw11]
            refine HA10.out.next ((Chg.refl (fun x j => x = u ∧ j = 1) w10).set u 1 _ (fun _ => ⟨rfl, rfl⟩)) (fun j e => ?_)
            rcases HG10.out with h | h
            · exact huAu (e.1 ▸ h)
            · have := e.1; simp at h; omega
          have HG11 : Hid (g' = Au ∨ w8.heap.size + 1 ≤ g') := by rcases HG10.out with h | h; exact Or.inl h; exact Or.inr (by simpa using h)
          clear hw11 uu fu HA10 HG10 HC10 CT CA
          have nbu : b ≠ u := fun e => HUL.out.2.2.1 e.symm
          obtain ⟨kA1, kA2, kA3⟩ := HI.out.shape.apart (by omega) (by omega) HBL.out HUL.out.1 HUL.out.2.2.1
          obtain ⟨kB1, kB2, kB3⟩ := HI.out.shape.apart (by omega) (by omega) HUL.out.1 HBL.out nbu
          rw [← hA.out, ← hAu.out] at kA2
          rw [← hAu.out] at kA1
          rw [← hA.out] at kA3
          rw [← hAu.out] at kB3
          have hHAu : H ≠ Au ∧ H + 1 ≠ Au ∧ H ≠ u ∧ H + 1 ≠ u := by
            have h1 : Au < w.heap.size := by rw [hAu.out]; exact (HI.out.inner (l + 1) hl2 u HUL.out.1).ka.lt
            have h2 := (HI.out.inner (l + 1) hl2 u HUL.out.1).node.pl.lt
            have := HH.out
            omega
          have k7 : ∀ x j v, x ≠ Au → (x ≠ u ∨ j ≠ 1) → w7.cell? ⟨x, j, none⟩ = some v → w11.cell? ⟨x, j, none⟩ = some v := fun x j v h1 h2 hc => HCA.out.keep hc (fun e => by rcases e with e | e; exact h1 e; rcases h2 with h2 | h2; exact h2 e.1; exact h2 e.2)
          have k6 : ∀ x j v, x ≠ H ∨ j < 4 ∨ 9 < j → w6.cell? ⟨x, j, none⟩ = some v → w7.cell? ⟨x, j, none⟩ = some v := fun x j v h hc => HC7.out.keep hc (fun e => by have := e.1; have := e.2; omega)
          have k5 : ∀ x j v, x ≠ b ∨ j < 4 ∨ 9 < j → w5.cell? ⟨x, j, none⟩ = some v → w6.cell? ⟨x, j, none⟩ = some v := fun x j v h hc => HC6.out.keep hc (fun e => by have := e.1; have := e.2; omega)
          have s7 : ∀ x o, x ≠ Au → x ≠ u → Sp w7 x o → Sp w11 x o := fun x o h1 h2 h => HCA.out.sp h (fun j _ _ e => by rcases e with e | e; exact h1 e; exact h2 e.1)
          have hbH : b ≠ H := fun e => hHb.1 e.symm
          have IB : InnerAt w11 (G.U b) (G.F b) (G.A b) (G.C b) (K.take at') b := by
            rw [← hU.out, ← hFe.out, ← hA.out, ← hCe.out]
            have htk : (K.take at').length = at' := by rw [List.length_take, hK]; omega
            refine ⟨⟨HCT.out.pln _ _ HB.out.node.pl, ?_, k7 _ _ _ kB3 (Or.inl nbu) (k6 _ _ _ (Or.inl hbH) HS6.out.c4), s7 _ _ kB3 nbu (HC7.out.sp HS6.out.sp (fun j _ _ e => hbH e.1)), ?_, ?_⟩, ?_, ?_⟩
            · exact k7 _ _ _ kB3 (Or.inl nbu) (k6 _ _ _ (Or.inl hbH) (k5 _ _ _ (Or.inr (Or.inl (by omega))) (HKEEPB.out 0 _ (by omega) HB.out.node.c0)))
            · obtain ⟨x, hx⟩ := HS6.out.c9; exact ⟨x, k7 _ _ _ kB3 (Or.inl nbu) (k6 _ _ _ (Or.inl hbH) hx)⟩
            · exact k7 _ _ _ kB3 (Or.inl nbu) (k6 _ _ _ (Or.inl hbH) (k5 _ _ _ (Or.inr (Or.inr (by omega))) (HKEEPB.out 23 _ (by omega) HB.out.node.c23)))
            · rw [htk]; exact k7 _ _ _ kB3 (Or.inl nbu) (k6 _ _ _ (Or.inl hbH) (k5 _ _ _ (Or.inr (Or.inl (by omega))) HB1.out))
            · have ka := HB.out.ka
              rw [htk]
              refine ⟨fun j v hj => ?_, fun j hj => HCT.out.has _ _ (ka.room j hj), fun j => (HCT.out.froz A j hAw).trans (ka.free j), HCT.out.shp _ _ ka.shp, by rw [List.length_map, htk, Nat.mul_one], by omega, ka.cm, fun v hv => ka.one v (by rw [List.map_take] at hv; exact List.mem_of_mem_take hv)⟩
              rw [List.map_take, List.getElem?_take] at hj
              split at hj
              · rename_i hjl
                refine HCT.out.keep (ka.cell j v hj) (fun e => ?_)
                rcases e with e | e | e | e | e
                · have := e.2; omega
                · exact hbA e.1.symm
                · exact HNB.out.2.2 e.1
                · exact kA2 e.symm
                · exact kA3 e.1.symm
              · cases hj
          have IC : InnerAt w11 (G.U b) (FK kc) (H + 1) 9 KY H := by
            rw [← hU.out]
            obtain ⟨hh1, hh2, hh3⟩ := HHH.out
            obtain ⟨q0, _, _, _, q23⟩ := HE.out
            have low : ∀ j v, j ≠ 1 → j < 4 ∨ 9 < j → w1.cell? ⟨H, j, none⟩ = some v → w11.cell? ⟨H, j, none⟩ = some v := fun j v h1 h2 hc => k7 _ _ _ hHAu.1 (Or.inl hHAu.2.2.1) (k6 _ _ _ (Or.inr h2) (k5 _ _ _ (Or.inl hHb.1) (hh1 j v h1 hc)))
            refine ⟨⟨HCA.out.pln _ _ (HC7.out.pln _ _ (HC6.out.pln _ _ HPH.out)), ?_, k7 _ _ _ hHAu.1 (Or.inl hHAu.2.2.1) HS7.out.c4, s7 _ _ hHAu.1 hHAu.2.2.1 HS7.out.sp, ?_, low 23 _ (by omega) (by omega) q23⟩, ?_, ?_⟩
            · rw [HPP.out]; exact low 0 _ (by omega) (by omega) q0
            · obtain ⟨x, hx⟩ := HS7.out.c9; exact ⟨x, k7 _ _ _ hHAu.1 (Or.inl hHAu.2.2.1) hx⟩
            · rw [HYL.out]; exact k7 _ _ _ hHAu.1 (Or.inl hHAu.2.2.1) (k6 _ _ _ (Or.inr (Or.inl (by omega))) (k5 _ _ _ (Or.inl hHb.1) hh2))
            · rw [HYL.out]
              have e1 : KY.map ptr = (K.map ptr).drop at' := by rw [HKY.out, List.map_drop]
              rw [e1]
              exact (((HKA4.out.next HC5.out (fun j e => HHK.out.2 e.1)).next HC6.out (fun j e => hHb.2.2.1 e.1)).next HC7.out (fun j e => by have := e.1; omega)).next HCA.out (fun j e => by rcases e with e | e; exact hHAu.2.1 e; exact hHAu.2.2.2 e.1)
          have IU : InnerAt w11 (G.U u) (G.F u) g' c' (rep b H (G.K u)) u := by
            rw [← hKu.out]
            have hlen : (rep b H Ku).length = n + 1 := by rw [rep_length b H Ku HUL.out.2.2.2.2.2, if_pos (by rw [hKu.out]; exact HUL.out.2.1), HN.out]
            have hn7 := HU7.out.node
            refine ⟨⟨HCA.out.pln _ _ hn7.pl, k7 _ _ _ huAu (Or.inr (by omega)) hn7.c0, k7 _ _ _ huAu (Or.inr (by omega)) hn7.c4, HCA.out.sp hn7.sp (fun j _ _ e => by rcases e with e | e; exact huAu e; have := e.2; omega), ?_, k7 _ _ _ huAu (Or.inr (by omega)) hn7.c23⟩, ?_, ?_⟩
            · obtain ⟨x, hx⟩ := hn7.c9; exact ⟨x, k7 _ _ _ huAu (Or.inr (by omega)) hx⟩
            · rw [hlen]; exact U1
            · rw [hlen]; exact HAu11.out
          have IK : ∀ k ∈ KY, w11.cell? ⟨k, 0, none⟩ = some (ptr H) := fun k hk => k7 _ _ _ (fun e => HUL.out.2.2.2.2.1 (e ▸ hk)) (Or.inr (by omega)) (k6 _ _ _ (Or.inr (Or.inl (by omega))) (k5 _ _ _ (Or.inr (Or.inl (by omega))) (HD5.out k hk)))
          have hcut := inv_cut_inner (at' := at') (H := H) (fc := FK kc) (g' := g') (c' := c') (KX := K.take at') (KY := KY) HI.out hl2 HBL.out HUB.out HUL.out.1 HUL.out.2.1 (by rw [HKY.out, List.take_append_drop, hKe.out]) (by rw [List.length_take, hK]; omega) (by rw [HYL.out]; omega) ⟨kc, HKC.out, by rw [hFK.out]⟩ (by rw [HH.out]; exact Nat.le_refl _) (by rcases HG11.out with h | h; exact Or.inl (by rw [h, hAu.out]); have := HC8.out.size; have := HC7.out.size; have := HC6.out.size; have := HC5.out.size; have := HC4.out.size; have := HS2.out; exact Or.inr (by omega)) (by rw [← hA.out, ← hAu.out]; exact HCT.out) IB IC IU IK
          clear IB IC IU IK k5 k6 k7 s7
          obtain ⟨G2, hD2, hI2, hfl, hR2, huL2, hK2⟩ := hcut
          have hlen9 : (rep b H (G.K u)).length = n + 1 := by rw [← hKu.out, rep_length b H Ku HUL.out.2.2.2.2.2, if_pos (by rw [hKu.out]; exact HUL.out.2.1), HN.out]
          have hRb := (HI.out.shape.own (l + 1) (by omega) b HBL.out)
          have hRu := (HI.out.shape.own (l + 2) (by omega) u HUL.out.1)
          have hRk : ∀ k ∈ KY, G.R k = some (k, 0) := fun k hk => (HI.out.shape.own l (by omega) k (HI.out.shape.kid l hD1 b k HBL.out (by rw [← hKe.out]; exact (HKYK.out k hk).1))).1
          have hXR : ∀ x j, XI A at' b u Au KY x j → G.R x ≠ none := fun x j e => by
            rcases e with e | e | e | e | e
            · rw [e.1, hA.out, hRb.2.1]; simp
            · rw [e.1, hRb.1]; simp
            · rw [hRk x e.1]; simp
            · rw [e, hAu.out, hRu.2.1]; simp
            · rw [e.1, hRu.1]; simp
          have kq : ∀ j v, w.cell? ⟨qb, j, none⟩ = some v → w11.cell? ⟨qb, j, none⟩ = some v := fun j v hc => HCT.out.keep hc (fun e => hXR _ _ e HRQ.out)
          have QA : QAt w11 qb qo sl root := by
            obtain ⟨tq, hq0⟩ := HQ.out.pl
            exact ⟨⟨tq, HCT.out.pln _ _ hq0⟩, kq _ _ HQ.out.c0, kq _ _ HQ.out.c1, kq _ _ HQ.out.c2, kq _ _ HQ.out.c3⟩
          have HQA : Hid (QAt w11 qb qo sl root) := QA
          have HCF : Hid (Chg (fun x j => G.R x ≠ none ∨ (x = qb ∧ j = qo + 3)) w w11) := HCT.out.mono (fun x j _ e => Or.inl (hXR x j e))
          have hqlt : qb < w.heap.size := by obtain ⟨tq, hq0⟩ := HQ.out.pl; exact hq0.lt
          have HR2 : Hid (∀ x, x < w.heap.size → (G2.R x = none ↔ G.R x = none)) := hR2
          have HFL : Hid (G2.flat = G.flat) := hfl
          rw [hlen9] at hI2
          by_cases h9 : n = 8
          · have h9' : n + 1 = 9 := by omega
            rw [if_pos h9'] at hI2
            have hrec := fun (lb : Bool) => HIH.out G2 w11 lb hD2 hI2 huL2 (by rw [hK2, hlen9]; exact h9') HQA.out ((hR2 qb hqlt).2 HRQ.out)
            have HREC : Hid (∀ lb : Bool, Calls Ybaz.prog 42 #[.pointer (some ⟨qb, qo, none⟩), .pointer (some ⟨u, 0, none⟩), .bool lb] w11 (SplitPost w11 G2 qb qo sl)) := hrec
            subst h9
            clear hrec hI2 hR2 hfl kq QA hXR hRk hRb hRu hlen9 huL2 hK2
            go_wp2_with (first | (go_at_call 42; refine (HREC.out _).mono ?_; rintro e w12 ⟨rfl, G3, root3, i1, i2, i3, i4, i5⟩) | go_in)
            all_goals (go_end0; refine ⟨rfl, G3, root3, i1, i2.trans HFL.out, i3, HCF.out.trans i4 (fun x j hx e => ?_), fun x hx => (i5 x (Nat.lt_of_lt_of_le hx HCT.out.size)).trans (HR2.out x hx)⟩; rcases e with e | e; exact Or.inl (fun h => e ((HR2.out x hx).2 h)); exact Or.inr e)
          · have h9' : ¬ (n + 1 = 9) := by omega
            rw [if_neg h9'] at hI2
            have HI2 : Hid (Inv w11 G2 none root) := hI2
            have kn : ¬ ((8 : Int) < (n : Int) + 1) := by omega
            have kn2 : ((n + 1 : Nat) : Int) ≤ 8 := by omega
            clear hI2 hR2 hfl kq QA hXR hRk hRb hRu hlen9 huL2 hK2
            go_wp2_with (first | (go_at_call 42; fail) | go_in)
            go_end0
            exact ⟨rfl, G2, root, HI2.out, HFL.out, HQA.out, HCF.out, HR2.out⟩
end Go.Proofs.YbulkdxqmGreatFmt
