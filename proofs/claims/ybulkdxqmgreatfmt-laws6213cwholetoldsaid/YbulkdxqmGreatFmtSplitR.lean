/- LawS6213CWhole: split of an inner block that is the root. -/
import Derived.Test.YbulkdxqmGreatFmtSplit
import Derived.Test.YbulkdxqmGreatFmtCutR
namespace Go.Proofs.YbulkdxqmGreatFmt
set_option linter.unusedVariables false
set_option linter.unusedSimpArgs false
open Go.RowKit
attribute [local go_sem] run_store_floatB

theorem Arr.lit2 (w : World) (e : Nat) (u v : Value) (h1 : u.oneCell' = true) (h2 : v.oneCell' = true) : Arr (w.alloc (.cells #[u, v] e)) w.heap.size e 1 2 2 [u, v] := by
  refine ⟨fun j x hj => ?_, fun j hj => ?_, fun j => frozen_of_row _ _ _ _ _ (heap_alloc_new _ _), ?_, rfl, Nat.le_refl _, by omega, fun x hx => by simp at hx; rcases hx with rfl | rfl; exact h1; exact h2⟩
  · rw [cell_of_row _ _ _ _ _ _ (heap_alloc_new _ _)]
    simpa using hj
  · rw [cell_of_row _ _ _ _ _ _ (heap_alloc_new _ _), Array.getElem?_eq_getElem (by simpa using hj)]; rfl
  · unfold World.shape?
    rw [heap_alloc_new]; rfl

set_option maxHeartbeats 8000000 in
set_option maxRecDepth 100000 in
theorem split_inner_root (G : Gh) (w : World) (l b qb qo sl : Nat) (last : Bool) (hlD : l + 1 = G.D) (hI : Inv w G (some b) b) (hK9 : (G.K b).length = 9) (hq : QAt w qb qo sl b) (hRq : G.R qb = none) :
    Calls Ybaz.prog 42 #[.pointer (some ⟨qb, qo, none⟩), .pointer (some ⟨b, 0, none⟩), .bool last] w (SplitPost w G qb qo sl) := by
  obtain ⟨root, hroot⟩ : ∃ root, Hid (root = b) := ⟨_, rfl⟩
  have hD1 : l < G.D := by omega
  have hbL : b ∈ G.L (l + 1) := by rw [hlD, hI.shape.top]; simp
  have hb := hI.inner l hD1 b hbL
  obtain ⟨ob1, ob2, _⟩ := hI.shape.own (l + 1) (by omega) b hbL
  have hbA : b ≠ G.A b := fun e => by rw [← e, ob1] at ob2; injection ob2 with e2; injection e2 with e3 e4; cases e4
  have hqb : qb ≠ b ∧ qb ≠ G.A b := ⟨(fun e => by rw [e, ob1] at hRq; cases hRq), (fun e => by rw [e, ob2] at hRq; cases hRq)⟩
  have hkid : ∀ k ∈ G.K b, k ≠ b ∧ k ≠ G.A b ∧ k ≠ qb ∧ ∃ u f, NodeAt w u f k := fun k hk => by
    have hkL := hI.shape.kid l hD1 b k hbL hk
    obtain ⟨ok1, _, _⟩ := hI.shape.own l (by omega) k hkL
    refine ⟨fun e => ?_, fun e => ?_, fun e => ?_, _, _, hI.node l (by omega) k hkL⟩
    · have := hI.shape.lev l (l + 1) k (by omega) (by omega) hkL (e ▸ hbL); omega
    · rw [e, ob2] at ok1; injection ok1 with e2; injection e2 with e3 e4; cases e4
    · rw [e, hRq] at ok1; cases ok1
  have hF : ∀ k ∈ G.K b, w.cell? ⟨k, 4, none⟩ = some (ptr (G.F k)) := fun k hk => (hI.node l (by omega) k (hI.shape.kid l hD1 b k hbL hk)).c4
  have hF0 : ∃ k, (G.K b).head? = some k ∧ G.F k = G.F b := by obtain ⟨_, _, k, h1, h2⟩ := hI.shape.inner l hD1 b hbL; exact ⟨k, h1, h2.symm⟩
  have hC : 9 ≤ G.C b := by have := hb.ka.nc; omega
  have HI : Hid (Inv w G (some b) b) := hI
  have HRQ : Hid (G.R qb = none) := hRq
  have HBL : Hid (b ∈ G.L (l + 1)) := hbL
  obtain ⟨FK, hFK⟩ : ∃ FK, Hid (FK = G.F) := ⟨_, rfl⟩
  obtain ⟨U, hU⟩ : ∃ U, Hid (U = G.U b) := ⟨_, rfl⟩
  obtain ⟨F, hFe⟩ : ∃ F, Hid (F = G.F b) := ⟨_, rfl⟩
  obtain ⟨A, hA⟩ : ∃ A, Hid (A = G.A b) := ⟨_, rfl⟩
  obtain ⟨C, hCe⟩ : ∃ C, Hid (C = G.C b) := ⟨_, rfl⟩
  obtain ⟨K, hKe⟩ : ∃ K, Hid (K = G.K b) := ⟨_, rfl⟩
  have HUB : Hid (G.U b = none) := hI.shape.upr
  rw [← hroot.out] at hq
  rw [← hU.out, ← hFe.out, ← hA.out, ← hCe.out, ← hKe.out] at hb
  rw [← hKe.out] at hK9 hkid hF hF0
  rw [← hA.out] at hbA hqb hkid
  rw [← hFK.out] at hF hF0
  have hF0' : ∃ k, K.head? = some k ∧ FK k = F := by obtain ⟨k, h1, h2⟩ := hF0; exact ⟨k, h1, by rw [h2, hFe.out, hFK.out]⟩
  clear hF0
  have hF0 := hF0'
  clear hF0'
  rw [← hCe.out] at hC
  have hK := hK9
  clear hK9 hI hbL ob1 ob2 hRq
  have q2 := fun (w : World) (a : Option Addr) (n c n' c' : Nat) => Lib.run_eql_slice_nil (P := Ybaz.prog) w _ _ a n c n' c' Ybaz.underlying35
  obtain ⟨at', hat⟩ : ∃ at' : Nat, Hid (at' = if last then 8 else 4) := ⟨_, rfl⟩
  have hat2 : 0 < at' ∧ at' < 9 := by have := hat.out; cases last <;> simp at this <;> omega
  obtain ⟨p, hp⟩ := upv_ptr U
  have c0 := hb.node.c0
  rw [hp] at c0
  have c1 := hb.c1
  rw [hK] at c1
  have HB : Hid (InnerAt w U F A C K b) := hb
  have HKD : Hid (∀ k ∈ K, k ≠ b ∧ k ≠ A ∧ k ≠ qb ∧ ∃ u f, NodeAt w u f k) := hkid
  have HFK : Hid (∀ k ∈ K, w.cell? ⟨k, 4, none⟩ = some (ptr (FK k))) := hF
  have HF0 : Hid (∃ k, K.head? = some k ∧ FK k = F) := hF0
  clear hkid hF hF0
  have HQ : Hid (QAt w qb qo sl root) := hq
  have hbw : b < w.heap.size := hb.node.pl.lt
  have hAw : A < w.heap.size := hb.ka.lt
  have m1 := mk35
  obtain ⟨i0, hi0, hz0, hzs, hzb⟩ := info_parts binfo25
  clear hb hq
  go_enter Ybaz.func42, Ybaz.ntmps42
  go_upto_if 17 with (first | (go_at_call 55; refine (size55_inner b 9 C ⟨A, 0, none⟩ _ c1).mono ?_; rintro e w1 ⟨rfl, hw⟩; obtain rfl : w = w1 := hw.symm) | go_in)
  go_cut [6] from 14 to 17 (fun v wx => v = .int .i64 at' ∧ w = wx)
  case first =>
    cases last with
    | true =>
      go_wp2_with (first | (go_at_call 67; refine (most67_inner b 9 C ⟨A, 0, none⟩ _ c1).mono ?_; rintro e w1 ⟨rfl, hw⟩; obtain rfl : w = w1 := hw.symm) | go_in)
      go_meet
      case rel => exact ⟨by rw [hat.out]; rfl, rfl⟩
    | false =>
      go_wp2
      go_meet
      case rel => exact ⟨by rw [hat.out]; rfl, rfl⟩
  case rest =>
    obtain ⟨rfl, rfl⟩ := hcut
    go_upto_region 14 with fail
    obtain ⟨w1, hw1⟩ : ∃ w1, w1 = w.alloc (.cells #[Value.pointer p, Value.slice none 0 0, Value.slice none 0 0, Value.slice none 0 0, Value.pointer none,
          Value.int IntKind.i64 0, Value.int IntKind.i64 0, Value.int IntKind.i64 0, Value.float FloatKind.f64 0,
          Value.int IntKind.i64 0, Value.int IntKind.i64 0, Value.int IntKind.i64 0, Value.int IntKind.i64 0,
          Value.int IntKind.i64 0, Value.float FloatKind.f64 0, Value.float FloatKind.f64 0,
          Value.float FloatKind.f64 0, Value.float FloatKind.f64 0, Value.float FloatKind.f64 0,
          Value.float FloatKind.f64 0, Value.float FloatKind.f64 0, Value.float FloatKind.f64 0, Value.pointer none,
          Value.bool false] 142) := ⟨_, rfl⟩
    obtain ⟨H, hH⟩ : ∃ H, H = w.heap.size := ⟨_, rfl⟩
    have hz1 : w1.heap.size = H + 1 := by rw [hw1, hH]; simp
    have hcell : ∀ j v, (#[Value.pointer p, Value.slice none 0 0, Value.slice none 0 0, Value.slice none 0 0, Value.pointer none,
          Value.int IntKind.i64 0, Value.int IntKind.i64 0, Value.int IntKind.i64 0, Value.float FloatKind.f64 0,
          Value.int IntKind.i64 0, Value.int IntKind.i64 0, Value.int IntKind.i64 0, Value.int IntKind.i64 0,
          Value.int IntKind.i64 0, Value.float FloatKind.f64 0, Value.float FloatKind.f64 0,
          Value.float FloatKind.f64 0, Value.float FloatKind.f64 0, Value.float FloatKind.f64 0,
          Value.float FloatKind.f64 0, Value.float FloatKind.f64 0, Value.float FloatKind.f64 0, Value.pointer none,
          Value.bool false] : Array Value)[j]? = some v → w1.cell? ⟨H, j, none⟩ = some v := fun j v hj => by
      rw [hw1, hH, cell_of_row _ _ _ _ _ _ (heap_alloc_new _ _)]; exact hj
    have e0 := hcell 0 _ rfl
    have e1 := hcell 1 _ rfl
    have e4 := hcell 4 _ rfl
    have e5 := hcell 5 _ rfl
    have e6 := hcell 6 _ rfl
    have e7 := hcell 7 _ rfl
    have e8 := hcell 8 _ rfl
    have e9 := hcell 9 _ rfl
    have e23 := hcell 23 _ rfl
    have HP1 : Hid (Plain w1 H 142) := ⟨_, by rw [hw1, hH]; exact heap_alloc_new _ _⟩
    have HC1 : Hid (Chg S0 w w1) := by rw [hw1]; exact (Chg.refl S0 w).alloc _
    have d1 := HC1.out.keep c1 id
    have f1 := HP1.out.free 1
    rw [← hw1, ← hH]
    have HH : Hid (H = w.heap.size) := hH
    have hHw : H < w1.heap.size := by omega
    have hb1 : b < w1.heap.size := by omega
    have HE : Hid (w1.cell? ⟨H, 0, none⟩ = some (.pointer p) ∧ w1.cell? ⟨H, 4, none⟩ = some (.pointer none) ∧ Ex4 w1 H 5 ∧ w1.cell? ⟨H, 9, none⟩ = some (.int .i64 0) ∧ w1.cell? ⟨H, 23, none⟩ = some (.bool false)) := ⟨e0, e4, ⟨_, _, _, _, e5, e6, e7, e8⟩, e9, e23⟩
    have hAw1 : A < w1.heap.size := by omega
    have hsrc : ∀ (o : Obj) j u, ((K.map ptr).drop at')[j]? = some u → (w1.alloc o).cell? ((⟨A, at', none⟩ : Addr).add j) = some u := fun o j u hj => by
      rw [Addr.add_lit]
      have hc := HB.out.ka.cell (at' + j) u (by rwa [List.getElem?_drop] at hj)
      exact ((Chg.refl S0 w1).alloc o).keep (HC1.out.keep hc id) id
    have hone : ∀ u ∈ (K.map ptr).drop at', u.oneCell' = true := fun u hu => HB.out.ka.one u (List.mem_of_mem_drop hu)
    have hlen : ((K.map ptr).drop at').length = (9 - at') * 1 := by simp [hK]
    have hsp : ∀ j, j < ((K.map ptr).drop at').length → ((w1.alloc (.cells (madeCells #[.pointer none] 9) 25)).cell? ⟨H + 1, 0 + 0 * 1 + j, none⟩).isSome = true ∧ (w1.alloc (.cells (madeCells #[.pointer none] 9) 25)).frozen? ⟨H + 1, 0 + 0 * 1 + j, none⟩ = false := fun j hj => by
      rw [← hz1]
      have := World.rowIs_made w1 (.pointer none) 9 25
      refine ⟨?_, this.frozen _⟩
      rw [this.cell (by rw [hlen] at hj; omega)]; rfl
    have d1a : ∀ o, (w1.alloc o).cell? ⟨b, 1, none⟩ = some (.slice (some ⟨A, 0, none⟩) 9 C) := fun o => ((Chg.refl S0 w1).alloc o).keep d1 id
    have d1s : ∀ o n vs, ((w1.alloc o).drew.setCells (H + 1) n vs).cell? ⟨b, 1, none⟩ = some (.slice (some ⟨A, 0, none⟩) 9 C) := fun o n vs => by rw [World.cell?_setCells_out _ _ _ _ _ (fun e _ => absurd e (by show b ≠ H + 1; omega))]; exact d1a o
    have e1s : ∀ o n vs, ((w1.alloc o).drew.setCells (H + 1) n vs).cell? ⟨H, 1, none⟩ = some (.slice none 0 0) := fun o n vs => by rw [World.cell?_setCells_out _ _ _ _ _ (fun e _ => absurd e (by show H ≠ H + 1; omega))]; exact ((Chg.refl S0 w1).alloc o).keep e1 id
    have f1s : ∀ o n vs, ((w1.alloc o).drew.setCells (H + 1) n vs).frozen? ⟨H, 1, none⟩ = false := fun o n vs => by rw [World.frozen?_setCells]; exact (((Chg.refl S0 w1).alloc o).froz H 1 (by omega)).trans f1
    have k1 : ¬ (C = at') := by omega
    have k2 : (at' : Int) ≤ 9 := by omega
    have k3 : at' ≤ 9 := by omega
    have HPP : Hid (upv U = .pointer p) := hp
    clear hcell e0 e4 e5 e6 e7 e8 e9 e23 hw1 hH c0 c1 hp
    go_cut [] from 96 to 106 (fun wx => Chg (fun x j => x = H ∧ j = 1) w1 wx ∧ wx.cell? ⟨H, 1, none⟩ = some (.slice (some ⟨H + 1, 0, none⟩) (9 - at') 9) ∧ Arr wx (H + 1) 25 1 (9 - at') 9 ((K.map ptr).drop at'))
    case first =>
      go_region_law (refine step_append_room rfl (.tmp 97) (.tmp 103) 35 rfl 25 i0 1 Ybaz.underlying35 hi0 hzs (H + 1) 0 0 9 (by simp [Act.eval, Act.put, hz1]) ⟨A, at', none⟩ (9 - at') (C - at') ((K.map ptr).drop at') (by simp [Act.eval, Act.put]) hlen (hsrc _) hone (by omega) hsp ?_)
      all_goals (first | go_meet | (go_wp2; go_meet))
      all_goals (case rel => exact ⟨((Chg.setCells (H + 1) _ _ _ (((Chg.refl _ w1).alloc _).drew) (fun hb => absurd hb (by omega))).set H 1 _ (fun _ => ⟨rfl, rfl⟩)), World.cell?_setCell_same _ _ _ (e1s _ _ _), by rw [← drew_setCells]; exact (Arr.filled w1 (H + 1) 25 (9 - at') 9 (.pointer none) ((K.map ptr).drop at') hz1.symm (by rw [hlen, Nat.mul_one]) (by omega) (by omega) hone).next (((Chg.refl (fun x _ => x = H) _).drew).set H 1 _ (fun _ => rfl)) (fun j e => by have : H + 1 = H := e; omega)⟩)
    case rest =>
      rename World => w2
      obtain ⟨hc2, hk2, ha2⟩ := hcut
      have HC2 : Hid (Chg S0 w w2) := HC1.out.trans hc2 (fun x j hx e => by have := e.1; have := HH.out; omega)
      have HCC : Hid (Chg (fun x j => x = H ∧ j = 1) w1 w2) := hc2
      have HKA : Hid (Arr w2 (H + 1) 25 1 (9 - at') 9 ((K.map ptr).drop at')) := ha2
      have g1 := HC2.out.keep HB.out.c1 id
      rw [hK] at g1
      have hz2 := HC2.out.size
      have HS2 : Hid (H + 1 < w2.heap.size) := ha2.lt
      have fA : ∀ j, w2.frozen? ⟨A, at' + j, none⟩ = false := fun j => (HC2.out.froz A _ hAw).trans (HB.out.ka.free _)
      have sA : ∀ j, j < 9 - at' → (w2.cell? ⟨A, at' + j, none⟩).isSome = true := fun j hj => HC2.out.has _ _ (HB.out.ka.room _ (by omega))
      have clr := Lib.run_clear_slice (P := Ybaz.prog) w2 35 25 0 (.pointer none) Ybaz.underlying35 (fun w => by kernel_rfl) rfl rfl A at' (9 - at') (C - at') (by omega) sA (fun j _ => fA j)
      have kb := HB.out.node.pl
      obtain ⟨w3, hw3⟩ : ∃ w3, w3 = w2.setCells A at' (List.replicate (9 - at') (.pointer none)) := ⟨_, rfl⟩
      rw [← hw3] at clr
      have HC3 : Hid (Chg (fun x j => x = A ∧ at' ≤ j) w2 w3) := by rw [hw3]; exact Chg.setCells A _ _ _ (Chg.refl _ w2) (fun _ j _ => ⟨rfl, by omega⟩)
      have g3 := HC3.out.keep g1 (fun e => hbA e.1)
      have fb : w3.frozen? ⟨b, 1, none⟩ = false := (HC3.out.froz b 1 (by omega)).trans ((HC2.out.froz b 1 hbw).trans (kb.free 1))
      clear hc2 ha2 fA sA hsrc hone hlen hsp d1 d1a d1s e1s f1s e1 f1 m1
      clear hw3
      go_upto_region 17 with fail
      obtain ⟨w4, hw4⟩ : ∃ w4, w4 = w3.setCell ⟨b, 1, none⟩ (.slice (some ⟨A, 0, none⟩) at' C) := ⟨_, rfl⟩
      rw [← hw4]
      have HC4 : Hid (Chg (fun x j => (x = A ∧ at' ≤ j) ∨ (x = b ∧ j = 1)) w2 w4) := by
        rw [hw4]
        exact (HC3.out.mono (fun x j _ e => Or.inl e)).set b 1 _ (fun _ => Or.inr ⟨rfl, rfl⟩)
      have g4 : w4.cell? ⟨b, 1, none⟩ = some (.slice (some ⟨A, 0, none⟩) at' C) := by rw [hw4]; exact World.cell?_setCell_same _ _ _ g3
      have hHb : H ≠ b ∧ H ≠ A ∧ H + 1 ≠ b ∧ H + 1 ≠ A := by have := HH.out; omega
      have hk4 := HC4.out.keep hk2 (fun e => by rcases e with e | e; exact hHb.2.1 e.1; exact hHb.1 e.1)
      have HKA4 : Hid (Arr w4 (H + 1) 25 1 (9 - at') 9 ((K.map ptr).drop at')) := HKA.out.next HC4.out (fun j e => by rcases e with e | e; exact hHb.2.2.2 e.1; exact hHb.2.2.1 e.1)
      clear hw4 g1 g3 fb clr kb
      obtain ⟨m, hm⟩ : ∃ m, m = 9 - at' := ⟨_, rfl⟩
      rw [← hm] at hk4
      rw [← hm] at HKA4
      have hm2 : 0 < m ∧ m < 9 := by omega
      have HM : Hid (m = 9 - at') := hm
      clear hm
      obtain ⟨KY, hKY⟩ : ∃ KY, KY = K.drop at' := ⟨_, rfl⟩
      have HKY : Hid (KY = K.drop at') := hKY
      have HYL : Hid (KY.length = m) := by show _ = _; rw [hKY, List.length_drop, hK]; exact HM.out.symm
      have HKA5 : Hid (∀ i k, KY[i]? = some k → w4.cell? ⟨H + 1, i, none⟩ = some (.pointer (some ⟨k, 0, none⟩))) := fun i k hik => HKA4.out.cell i _ (by rw [List.getElem?_drop, List.getElem?_map, ← List.getElem?_drop, ← hKY, hik]; rfl)
      have HKYK : Hid (∀ k ∈ KY, k ∈ K ∧ k < H) := fun k hk => by
        have h1 : k ∈ K := List.mem_of_mem_drop (hKY ▸ hk)
        obtain ⟨_, _, _, u, f, hn⟩ := HKD.out k h1
        exact ⟨h1, by rw [HH.out]; exact hn.pl.lt⟩
      clear hKY
      go_wp2
      go_loopw [127] (fun v wr => ∃ i : Nat, i ≤ m ∧ v = .int .i64 i ∧ Chg (fun x j => x ∈ KY ∧ j = 0) w4 wr ∧ ∀ t k, t < i → KY[t]? = some k → wr.cell? ⟨k, 0, none⟩ = some (ptr H)) (fun v _ => m - (intOf v).toNat)
      case atStart => exact ⟨0, Nat.zero_le _, rfl, Chg.refl _ _, fun t k ht => by omega⟩
      case round =>
        rename World => w5
        obtain ⟨i, hi, rfl, hC5, hd5⟩ := hrel
        by_cases hlt : i < m
        · obtain ⟨k, hk⟩ : ∃ k, KY[i]? = some k := ⟨KY[i]'(by have := HYL.out; omega), List.getElem?_eq_getElem _⟩
          have hkm : k ∈ KY := List.mem_of_getElem? hk
          have x1 := hC5.keep (HKA5.out i k hk) (fun e => by have := (HKYK.out _ e.1).2; omega)
          have l1 : (i : Int) < (m : Int) := by omega
          obtain ⟨n1, n2, n3, u, f, hn⟩ := HKD.out k (HKYK.out k hkm).1
          have y0 : w4.cell? ⟨k, 0, none⟩ = some (upv u) := HC4.out.keep (HC2.out.keep hn.c0 id) (fun e => by rcases e with e | e; exact n2 e.1; exact n1 e.1)
          obtain ⟨v0, hv0⟩ := Option.isSome_iff_exists.1 (hC5.has k 0 (by rw [y0]; rfl))
          have y1 : w5.frozen? ⟨k, 0, none⟩ = false := (hC5.froz k 0 (World.block_lt_of_cell? _ _ y0)).trans ((HC4.out.froz k 0 (by have := (HKYK.out k hkm).2; have := HS2.out; omega)).trans ((HC2.out.froz k 0 hn.pl.lt).trans (hn.pl.free 0)))
          have HC5 : Hid (Chg (fun x j => x ∈ KY ∧ j = 0) w4 w5) := hC5
          have HD5 : Hid (∀ t k, t < i → KY[t]? = some k → w5.cell? ⟨k, 0, none⟩ = some (ptr H)) := hd5
          have HKK : Hid (KY[i]? = some k) := hk
          have HKM : Hid (k ∈ KY) := hkm
          clear hC5 hd5 hk hkm y0
          go_wp2
          go_roundw
          case rel =>
            refine ⟨i + 1, by omega, by go_num, HC5.out.set k 0 _ (fun _ => ⟨HKM.out, rfl⟩), fun t k2 ht hk2' => ?_⟩
            by_cases e : k2 = k
            · subst e; exact World.cell?_setCell_same _ _ _ hv0
            · rw [World.cell?_setCell_other _ _ _ _ (by intro e2; cases e2; exact e rfl)]
              refine HD5.out t k2 (Nat.lt_of_le_of_ne (by omega) ?_) hk2'
              rintro rfl
              rw [HKK.out] at hk2'
              exact e (Option.some.inj hk2').symm
          case measure => simp [intOf]; omega
        · have him : m = i := by omega
          subst him
          have HC5 : Hid (Chg (fun x j => x ∈ KY ∧ j = 0) w4 w5) := hC5
          have HD5 : Hid (∀ k ∈ KY, w5.cell? ⟨k, 0, none⟩ = some (ptr H)) := fun k hk => by
            obtain ⟨t, ht, e⟩ := List.getElem_of_mem hk
            exact hd5 t k (by have := HYL.out; omega) (by rw [← e]; exact List.getElem?_eq_getElem ht)
          clear hC5 hd5
          have CW5 : Chg (fun x j => (x = A ∧ at' ≤ j) ∨ (x = b ∧ j = 1) ∨ (x ∈ KY ∧ j = 0)) w w5 :=
            ((HC2.out.mono (fun _ _ _ e => False.elim e)).trans HC4.out (fun x j _ e => by rcases e with e | e; exact Or.inl e; exact Or.inr (Or.inl e))).trans HC5.out (fun x j _ e => Or.inr (Or.inr e))
          have HW5 : Hid (Chg (fun x j => (x = A ∧ at' ≤ j) ∨ (x = b ∧ j = 1) ∨ (x ∈ KY ∧ j = 0)) w w5) := CW5
          have bKY : b ∉ KY := fun e => (HKD.out b (HKYK.out b e).1).1 rfl
          have qKY : qb ∉ KY := fun e => (HKD.out qb (HKYK.out qb e).1).2.2.1 rfl
          have AKY : A ∉ KY := fun e => (HKD.out A (HKYK.out A e).1).2.1 rfl
          have keepb : ∀ j v, j ≠ 1 → w.cell? ⟨b, j, none⟩ = some v → w5.cell? ⟨b, j, none⟩ = some v := fun j v hj hc => CW5.keep hc (fun e => by rcases e with e | e | e; exact hbA e.1; exact hj e.2; exact bKY e.1)
          have keepq : ∀ j v, w.cell? ⟨qb, j, none⟩ = some v → w5.cell? ⟨qb, j, none⟩ = some v := fun j v hc => CW5.keep hc (fun e => by rcases e with e | e | e; exact hqb.2 e.1; exact hqb.1 e.1; exact qKY e.1)
          have keepk : ∀ k ∈ K, ∀ j v, j ≠ 0 → w.cell? ⟨k, j, none⟩ = some v → w5.cell? ⟨k, j, none⟩ = some v := fun k hk j v hj hc => CW5.keep hc (fun e => by rcases e with e | e | e; exact (HKD.out k hk).2.1 e.1; exact (HKD.out k hk).1 e.1; exact hj e.2)
          have kI : ∀ k ∈ K, I64 w5 k 9 := fun k hk => by obtain ⟨_, _, _, u, f, hn⟩ := HKD.out k hk; obtain ⟨x, hx⟩ := hn.c9; exact ⟨x, keepk k hk 9 _ (by omega) hx⟩
          have kS : ∀ k ∈ K, Sp w5 k 5 := fun k hk => by
            obtain ⟨_, _, _, u, f, hn⟩ := HKD.out k hk
            exact CW5.sp hn.sp (fun j h1 h2 e => by rcases e with e | e | e; exact (HKD.out k hk).2.1 e.1; exact (HKD.out k hk).1 e.1; have := e.2; omega)
          have kA : ∀ i k, i < at' → K[i]? = some k → w5.cell? ⟨A, i, none⟩ = some (.pointer (some ⟨k, 0, none⟩)) := fun i k hi' hik => CW5.keep (HB.out.ka.cell i _ (by rw [List.getElem?_map, hik]; rfl)) (fun e => by rcases e with e | e | e; have := e.2; omega; exact hbA e.1.symm; exact AKY e.1)
          have b1 : w5.cell? ⟨b, 1, none⟩ = some (.slice (some ⟨A, 0, none⟩) at' C) := HC5.out.keep g4 (fun e => bKY e.1)
          have hKget : ∀ i, i < 9 → ∃ k, K[i]? = some k ∧ K.getD i 0 = k ∧ k ∈ K := fun i hi' => by
            have hil : i < K.length := by omega
            exact ⟨K[i], List.getElem?_eq_getElem hil, by simp [List.getD, List.getElem?_eq_getElem hil], List.getElem_mem hil⟩
          have hsum1 := sum68_inner qb qo b A F at' (at' - 1) C (fun i => K.getD i 0) w5 (by omega) (by omega) (by omega) (keepq _ _ HQ.out.c2) hqb.1 b1 ⟨_, keepb 4 _ (by omega) HB.out.node.c4⟩
            (by obtain ⟨x, y, z, z1, z2, z3, z4⟩ := HB.out.node.sp; exact ⟨_, _, _, _, keepb _ _ (by omega) z1, keepb _ _ (by omega) z2, keepb _ _ (by omega) z3, keepb _ _ (by omega) z4⟩)
            (by obtain ⟨x, hx⟩ := HB.out.node.c9; exact ⟨x, keepb 9 _ (by omega) hx⟩) (fun j => (CW5.froz b j hbw).trans (HB.out.node.pl.free j))
            (fun i hi' => by obtain ⟨k, e1, e2, e3⟩ := hKget i (by omega); show w5.cell? ⟨A, i, none⟩ = some (.pointer (some ⟨K.getD i 0, 0, none⟩)) ∧ I64 w5 (K.getD i 0) 9 ∧ Sp w5 (K.getD i 0) 5 ∧ K.getD i 0 ≠ b; rw [e2]; exact ⟨kA i k hi' e1, kI k e3, kS k e3, (HKD.out k e3).1⟩)
            (by obtain ⟨k, e1, e2⟩ := HF0.out; obtain ⟨k', f1, f2, f3⟩ := hKget 0 (by omega); obtain rfl : k' = k := by rw [List.head?_eq_getElem?, f1] at e1; exact Option.some.inj e1
                show w5.cell? ⟨K.getD 0 0, 4, none⟩ = _; rw [f2, ← e2]; exact keepk k' f3 4 _ (by omega) (HFK.out k' f3)) (fun e => hbA e.symm)
          have HSUM1 : Hid (Calls Ybaz.prog 68 #[.pointer (some ⟨qb, qo, none⟩), .pointer (some ⟨b, 0, none⟩)] w5 fun e w' => e = .returned (.tuple #[]) ∧ Chg (S49 b) w5 w' ∧ Summed w' b F) := hsum1
          clear hsum1
          have HKG : Hid (∀ i, i < 9 → ∃ k, K[i]? = some k ∧ K.getD i 0 = k ∧ k ∈ K) := hKget
          have HKI : Hid (∀ k ∈ K, I64 w5 k 9) := kI
          have HKS : Hid (∀ k ∈ K, Sp w5 k 5) := kS
          have HKEEPQ : Hid (∀ j v, w.cell? ⟨qb, j, none⟩ = some v → w5.cell? ⟨qb, j, none⟩ = some v) := keepq
          have HKEEPK : Hid (∀ k ∈ K, ∀ j v, j ≠ 0 → w.cell? ⟨k, j, none⟩ = some v → w5.cell? ⟨k, j, none⟩ = some v) := keepk
          have HKEEPB : Hid (∀ j v, j ≠ 1 → w.cell? ⟨b, j, none⟩ = some v → w5.cell? ⟨b, j, none⟩ = some v) := keepb
          have HKAA : Hid (∀ i k, i < at' → K[i]? = some k → w5.cell? ⟨A, i, none⟩ = some (.pointer (some ⟨k, 0, none⟩))) := kA
          have HB1 : Hid (w5.cell? ⟨b, 1, none⟩ = some (.slice (some ⟨A, 0, none⟩) at' C)) := b1
          have HNB : Hid (b ∉ KY ∧ qb ∉ KY ∧ A ∉ KY) := ⟨bKY, qKY, AKY⟩
          have HHK : Hid (H ∉ KY ∧ H + 1 ∉ KY) := ⟨fun e => by have := (HKYK.out _ e).2; omega, fun e => by have := (HKYK.out _ e).2; omega⟩
          have hkH : ∀ j v, j ≠ 1 → w1.cell? ⟨H, j, none⟩ = some v → w5.cell? ⟨H, j, none⟩ = some v := fun j v hj hc => HC5.out.keep (HC4.out.keep (HCC.out.keep hc (fun e => hj e.2)) (fun e => by rcases e with e | e; exact hHb.2.1 e.1; exact hHb.1 e.1)) (fun e => HHK.out.1 e.1)
          have hH1 : w5.cell? ⟨H, 1, none⟩ = some (.slice (some ⟨H + 1, 0, none⟩) m 9) := HC5.out.keep hk4 (fun e => HHK.out.1 e.1)
          have hHY : ∀ i k, KY[i]? = some k → w5.cell? ⟨H + 1, i, none⟩ = some (.pointer (some ⟨k, 0, none⟩)) := fun i k hik => HC5.out.keep (HKA5.out i k hik) (fun e => HHK.out.2 e.1)
          have HPH : Hid (Plain w5 H 142) := HC5.out.pln _ _ (HC4.out.pln _ _ (HCC.out.pln _ _ HP1.out))
          obtain ⟨kc, hkc⟩ : ∃ kc, KY.head? = some kc := by
            cases hY : KY with
            | nil => have := HYL.out; rw [hY] at this; simp at this; omega
            | cons y ys => exact ⟨y, rfl⟩
          have HKC : Hid (KY.head? = some kc) := hkc
          have hkcm : kc ∈ KY := List.mem_of_mem_head? hkc
          have HHH : Hid ((∀ j v, j ≠ 1 → w1.cell? ⟨H, j, none⟩ = some v → w5.cell? ⟨H, j, none⟩ = some v) ∧ w5.cell? ⟨H, 1, none⟩ = some (.slice (some ⟨H + 1, 0, none⟩) m 9) ∧ ∀ i k, KY[i]? = some k → w5.cell? ⟨H + 1, i, none⟩ = some (.pointer (some ⟨k, 0, none⟩))) := ⟨hkH, hH1, hHY⟩
          clear hKget kI kS keepq keepk keepb kA b1 bKY qKY AKY hkH hH1 hHY hkc CW5
          go_upto_region 23 with (go_at_call 68; refine HSUM1.out.mono ?_; rintro e w6 ⟨rfl, hC6, hS6⟩; have HC6 : Hid (Chg (S49 b) w5 w6) := hC6; have HS6 : Hid (Summed w6 b F) := hS6; clear hC6 hS6)
          have nb6 : ∀ x j v, x ≠ b → w5.cell? ⟨x, j, none⟩ = some v → w6.cell? ⟨x, j, none⟩ = some v := fun x j v hx hc => HC6.out.keep hc (fun e => hx e.1)
          have hYget : ∀ i, i < m → ∃ k, KY[i]? = some k ∧ KY.getD i 0 = k ∧ k ∈ KY := fun i hi' => by
            have hil : i < KY.length := by have := HYL.out; omega
            exact ⟨KY[i], List.getElem?_eq_getElem hil, by simp [List.getD, List.getElem?_eq_getElem hil], List.getElem_mem hil⟩
          obtain ⟨hh1, hh2, hh3⟩ := HHH.out
          obtain ⟨q0, q4, ⟨v5, v6, v7, v8, q5, q6, q7, q8⟩, q9, q23⟩ := HE.out
          have kbne : ∀ k ∈ KY, k ≠ b := fun k hk e => HNB.out.1 (e ▸ hk)
          have hsum2 := sum68_inner qb qo H (H + 1) (FK kc) m (m - 1) 9 (fun i => KY.getD i 0) w6 (by omega) (by omega) (by omega) (nb6 _ _ _ hqb.1 (HKEEPQ.out _ _ HQ.out.c2)) (by obtain ⟨t, ht⟩ := HQ.out.pl; have := ht.lt; have := HH.out; omega) (nb6 _ _ _ hHb.1 hh2) ⟨_, nb6 _ _ _ hHb.1 (hh1 4 _ (by omega) q4)⟩
            ⟨_, _, _, _, nb6 _ _ _ hHb.1 (hh1 5 _ (by omega) q5), nb6 _ _ _ hHb.1 (hh1 6 _ (by omega) q6), nb6 _ _ _ hHb.1 (hh1 7 _ (by omega) q7), nb6 _ _ _ hHb.1 (hh1 8 _ (by omega) q8)⟩
            ⟨_, nb6 _ _ _ hHb.1 (hh1 9 _ (by omega) q9)⟩ (fun j => (HC6.out.froz H j HPH.out.lt).trans (HPH.out.free j))
            (fun i hi' => by
              obtain ⟨k, e1, e2, e3⟩ := hYget i hi'
              show w6.cell? ⟨H + 1, i, none⟩ = some (.pointer (some ⟨KY.getD i 0, 0, none⟩)) ∧ I64 w6 (KY.getD i 0) 9 ∧ Sp w6 (KY.getD i 0) 5 ∧ KY.getD i 0 ≠ H
              rw [e2]
              refine ⟨nb6 _ _ _ hHb.2.2.1 (hh3 i k e1), ?_, HC6.out.sp (HKS.out k (HKYK.out k e3).1) (fun j _ _ e => kbne k e3 e.1), fun e => HHK.out.1 (e ▸ e3)⟩
              obtain ⟨x, hx⟩ := HKI.out k (HKYK.out k e3).1
              exact ⟨x, nb6 _ _ _ (kbne k e3) hx⟩)
            (by
              obtain ⟨k', f1, f2, f3⟩ := hYget 0 (by omega)
              obtain rfl : k' = kc := by have := HKC.out; rw [List.head?_eq_getElem?, f1] at this; exact Option.some.inj this
              show w6.cell? ⟨KY.getD 0 0, 4, none⟩ = _
              rw [f2]
              exact nb6 _ _ _ (kbne k' f3) (HKEEPK.out k' (HKYK.out k' f3).1 4 _ (by omega) (HFK.out k' (HKYK.out k' f3).1))) (by omega)
          have HSUM2 : Hid (Calls Ybaz.prog 68 #[.pointer (some ⟨qb, qo, none⟩), .pointer (some ⟨H, 0, none⟩)] w6 fun e w' => e = .returned (.tuple #[]) ∧ Chg (S49 H) w6 w' ∧ Summed w' H (FK kc)) := hsum2
          clear hsum2 nb6 hYget hh1 hh2 hh3 q0 q4 q5 q6 q7 q8 q9 q23 kbne
          go_upto_region 24 with (go_at_call 68; refine HSUM2.out.mono ?_; rintro e w7 ⟨rfl, hC7, hS7⟩; have HC7 : Hid (Chg (S49 H) w6 w7) := hC7; have HS7 : Hid (Summed w7 H (FK kc)) := hS7; clear hC7 hS7)
          have CW7 : Chg (fun x j => (x = A ∧ at' ≤ j) ∨ (x = b ∧ (j = 1 ∨ (4 ≤ j ∧ j ≤ 9))) ∨ (x ∈ KY ∧ j = 0)) w w7 :=
            ((HW5.out.mono (fun x j _ e => by rcases e with e | e | e; exact Or.inl e; exact Or.inr (Or.inl ⟨e.1, Or.inl e.2⟩); exact Or.inr (Or.inr e))).trans HC6.out (fun x j _ e => Or.inr (Or.inl ⟨e.1, Or.inr e.2⟩))).trans HC7.out (fun x j hx e => by have := e.1; have := HH.out; omega)
          have HW7 : Hid (Chg (fun x j => (x = A ∧ at' ≤ j) ∨ (x = b ∧ (j = 1 ∨ (4 ≤ j ∧ j ≤ 9))) ∨ (x ∈ KY ∧ j = 0)) w w7) := CW7
          have b0 : w7.cell? ⟨b, 0, none⟩ = some (.pointer none) := by
            have h1 := HB.out.node.c0
            rw [hU.out, HUB.out] at h1
            exact CW7.keep h1 (fun e => by rcases e with e | e | e; exact hbA e.1; have := e.2; omega; exact HNB.out.1 e.1)
          have kq : ∀ j v, w.cell? ⟨qb, j, none⟩ = some v → w7.cell? ⟨qb, j, none⟩ = some v := fun j v hc => CW7.keep hc (fun e => by rcases e with e | e | e; exact hqb.2 e.1; exact hqb.1 e.1; exact HNB.out.2.1 e.1)
          have q3 := kq _ _ HQ.out.c3
          have fq : w7.frozen? ⟨qb, qo + 3, none⟩ = false := by obtain ⟨tq, hq0⟩ := HQ.out.pl; exact (CW7.pln _ _ hq0).free _
          have hq7 : qb < w7.heap.size := World.block_lt_of_cell? _ _ q3
          have hb7 : b < w7.heap.size := World.block_lt_of_cell? _ _ b0
          clear CW7 kq
          go_upto_region 27 with fail
          obtain ⟨N, hN⟩ : ∃ N, N = w7.heap.size := ⟨_, rfl⟩
          rw [← hN]
          obtain ⟨wq, hwq⟩ : ∃ wq, wq = (w7.setCell ⟨qb, qo + 3, none⟩ (.pointer (some ⟨N + 1, 0, none⟩))).alloc (.cells #[Value.pointer (some { block := b, off := 0 }), Value.pointer (some { block := H, off := 0 })] 25) := ⟨_, rfl⟩
          obtain ⟨T, hT⟩ : ∃ T : Array Value, T = #[Value.pointer none, Value.slice (some { block := N, off := 0 }) 2 2, Value.slice none 0 0,
          Value.slice none 0 0, Value.pointer none, Value.int IntKind.i64 0, Value.int IntKind.i64 0,
          Value.int IntKind.i64 0, Value.float FloatKind.f64 0, Value.int IntKind.i64 0, Value.int IntKind.i64 0,
          Value.int IntKind.i64 0, Value.int IntKind.i64 0, Value.int IntKind.i64 0, Value.float FloatKind.f64 0,
          Value.float FloatKind.f64 0, Value.float FloatKind.f64 0, Value.float FloatKind.f64 0,
          Value.float FloatKind.f64 0, Value.float FloatKind.f64 0, Value.float FloatKind.f64 0,
          Value.float FloatKind.f64 0, Value.pointer none, Value.bool false] := ⟨_, rfl⟩
          rw [← hwq, ← hT]
          obtain ⟨w8, hw8⟩ : ∃ w8, w8 = wq.alloc (.cells T 142) := ⟨_, rfl⟩
          rw [← hw8]
          have hzq : wq.heap.size = N + 1 := by rw [hwq, hN]; simp
          have CQ : Chg (fun x j => x = qb ∧ j = qo + 3) w7 wq := by rw [hwq]; exact ((Chg.refl _ w7).set qb (qo + 3) _ (fun _ => ⟨rfl, rfl⟩)).alloc _
          have C8 : Chg (fun x j => x = qb ∧ j = qo + 3) w7 w8 := by rw [hw8]; exact CQ.alloc _
          have HC8 : Hid (Chg (fun x j => x = qb ∧ j = qo + 3) w7 w8) := C8
          have HAN : Hid (Arr w8 N 25 1 2 2 [ptr b, ptr H]) := by
            show Arr _ _ _ _ _ _ _
            rw [hw8]
            refine Arr.next (S := S0) ?_ ((Chg.refl S0 wq).alloc _) (fun _ => id)
            rw [hwq, hN]
            have := Arr.lit2 (w7.setCell ⟨qb, qo + 3, none⟩ (.pointer (some ⟨w7.heap.size + 1, 0, none⟩))) 25 (ptr b) (ptr H) rfl rfl
            have hs : (w7.setCell ⟨qb, qo + 3, none⟩ (.pointer (some ⟨w7.heap.size + 1, 0, none⟩))).heap.size = w7.heap.size := by simp
            rw [hs] at this
            exact this
          have HT : Hid (∀ j v, T[j]? = some v → w8.cell? ⟨N + 1, j, none⟩ = some v) := fun j v hj => by rw [hw8, ← hzq, cell_of_row _ _ _ _ _ _ (heap_alloc_new _ _)]; exact hj
          have HPR : Hid (Plain w8 (N + 1) 142) := ⟨T, by rw [hw8, ← hzq]; exact heap_alloc_new _ _⟩
          have q8 : w8.cell? ⟨qb, qo + 3, none⟩ = some (.pointer (some ⟨N + 1, 0, none⟩)) := by
            rw [hw8]
            refine ((Chg.refl S0 wq).alloc _).keep ?_ id
            rw [hwq]
            exact ((Chg.refl S0 _).alloc _).keep (World.cell?_setCell_same _ _ _ q3) id
          have b8 := C8.keep b0 (fun e => hqb.1 e.1.symm)
          have fb8 : w8.frozen? ⟨b, 0, none⟩ = false := (C8.froz b 0 hb7).trans ((HW7.out.froz b 0 hbw).trans (HB.out.node.pl.free 0))
          have hqH : qb ≠ H := by obtain ⟨tq, hq0⟩ := HQ.out.pl; have := hq0.lt; have := HH.out; omega
          have hH7 : w7.cell? ⟨H, 0, none⟩ = some (.pointer p) := by
            obtain ⟨z0, _⟩ := HE.out
            refine HC7.out.keep (HC6.out.keep (HHH.out.1 0 _ (by omega) z0) (fun e => hHb.1 e.1)) (fun e => ?_)
            have := e.2; omega
          have h8 := C8.keep hH7 (fun e => hqH e.1.symm)
          have fh8 : w8.frozen? ⟨H, 0, none⟩ = false := (C8.pln _ _ (HC7.out.pln _ _ (HC6.out.pln _ _ HPH.out))).free 0
          have hbHne : b ≠ H := fun e => hHb.1 e.symm
          have T1 := HT.out 1 _ (by rw [hT]; rfl)
          have T4 := HT.out 4 _ (by rw [hT]; rfl)
          have T5 := HT.out 5 _ (by rw [hT]; rfl)
          have T6 := HT.out 6 _ (by rw [hT]; rfl)
          have T7 := HT.out 7 _ (by rw [hT]; rfl)
          have T8 := HT.out 8 _ (by rw [hT]; rfl)
          have T9 := HT.out 9 _ (by rw [hT]; rfl)
          have HTT : Hid (w8.cell? ⟨N + 1, 0, none⟩ = some (.pointer none) ∧ w8.cell? ⟨N + 1, 1, none⟩ = some (.slice (some ⟨N, 0, none⟩) 2 2) ∧ w8.cell? ⟨N + 1, 4, none⟩ = some (.pointer none) ∧ Ex4 w8 (N + 1) 5 ∧ I64 w8 (N + 1) 9 ∧ w8.cell? ⟨N + 1, 23, none⟩ = some (.bool false)) := ⟨HT.out 0 _ (by rw [hT]; rfl), T1, T4, ⟨_, _, _, _, T5, T6, T7, T8⟩, ⟨_, T9⟩, HT.out 23 _ (by rw [hT]; rfl)⟩
          have HNN : Hid (N = w7.heap.size) := hN
          have hqN : qb ≠ N + 1 ∧ b ≠ N + 1 ∧ b ≠ N ∧ H ≠ N ∧ H ≠ N + 1 := by have := HNN.out; have := (HC7.out.pln _ _ (HC6.out.pln _ _ HPH.out)).lt; omega
          clear hw8 hwq hT CQ C8 HT hN T1 T4 T5 T6 T7 T8 T9 q3 b0 hH7 fq
          go_region
          all_goals (go_upto_region 28 with fail)
          obtain ⟨w9, hw9⟩ : ∃ w9, w9 = ((w8.setCell ⟨b, 0, none⟩ (.pointer (some ⟨N + 1, 0, none⟩))).setCell ⟨H, 0, none⟩ (.pointer (some ⟨N + 1, 0, none⟩))).drew := ⟨_, rfl⟩
          rw [← hw9]
          have C9 : Chg (fun x j => (x = b ∨ x = H) ∧ j = 0) w8 w9 := by rw [hw9]; exact (((Chg.refl _ w8).set b 0 _ (fun _ => ⟨Or.inl rfl, rfl⟩)).set H 0 _ (fun _ => ⟨Or.inr rfl, rfl⟩)).drew
          have b9 : w9.cell? ⟨b, 0, none⟩ = some (ptr (N + 1)) := by
            rw [hw9, cell_drew, World.cell?_setCell_other _ _ _ _ (by intro e; cases e; exact hbHne rfl)]
            exact World.cell?_setCell_same _ _ _ b8
          have h9 : w9.cell? ⟨H, 0, none⟩ = some (ptr (N + 1)) := by
            rw [hw9, cell_drew]
            exact World.cell?_setCell_same _ _ _ (by rw [World.cell?_setCell_other _ _ _ _ (by intro e; cases e; exact hbHne rfl)]; exact h8)
          have HC9 : Hid (Chg (fun x j => (x = b ∨ x = H) ∧ j = 0) w8 w9) := C9
          have H99 : Hid (w9.cell? ⟨b, 0, none⟩ = some (ptr (N + 1)) ∧ w9.cell? ⟨H, 0, none⟩ = some (ptr (N + 1))) := ⟨b9, h9⟩
          have q9 := C9.keep q8 (fun e => by rcases e.1 with e | e; exact hqb.1 e; exact hqH e)
          have k79 : ∀ x j v, (x ≠ qb ∨ j ≠ qo + 3) → j ≠ 0 → w7.cell? ⟨x, j, none⟩ = some v → w9.cell? ⟨x, j, none⟩ = some v := fun x j v h1 h2 hc => HC9.out.keep (HC8.out.keep hc (fun e => by rcases h1 with h1 | h1; exact h1 e.1; exact h1 e.2)) (fun e => h2 e.2)
          have s79 : ∀ x o, x ≠ qb → 0 < o → Sp w7 x o → Sp w9 x o := fun x o h1 h2 h => HC9.out.sp (HC8.out.sp h (fun j _ _ e => h1 e.1)) (fun j hj _ e => by have := e.2; omega)
          have hSb7 : Summed w7 b F := ⟨HC7.out.keep HS6.out.c4 (fun e => hbHne e.1), HC7.out.sp HS6.out.sp (fun j _ _ e => hbHne e.1), by obtain ⟨x, hx⟩ := HS6.out.c9; exact ⟨x, HC7.out.keep hx (fun e => hbHne e.1)⟩⟩
          have HSB7 : Hid (Summed w7 b F) := hSb7
          obtain ⟨t0, t1, t4, t5, t9, t23⟩ := HTT.out
          have kr : ∀ j v, w8.cell? ⟨N + 1, j, none⟩ = some v → w9.cell? ⟨N + 1, j, none⟩ = some v := fun j v hc => HC9.out.keep hc (fun e => by have := hqN; rcases e.1 with e | e <;> omega)
          have kN : ∀ i v, [ptr b, ptr H][i]? = some v → w9.cell? ⟨N, i, none⟩ = some v := fun i v hi' => HC9.out.keep (HAN.out.cell i v hi') (fun e => by have := hqN; rcases e.1 with e | e <;> omega)
          have kq9 : ∀ j v, j ≠ qo + 3 → w.cell? ⟨qb, j, none⟩ = some v → w9.cell? ⟨qb, j, none⟩ = some v := fun j v hj hc => HC9.out.keep (HC8.out.keep (HW7.out.keep hc (fun e => by rcases e with e | e | e; exact hqb.2 e.1; exact hqb.1 e.1; exact HNB.out.2.1 e.1)) (fun e => hj e.2)) (fun e => by rcases e.1 with e | e; exact hqb.1 e; exact hqH e)
          have HKQ9 : Hid (∀ j v, j ≠ qo + 3 → w.cell? ⟨qb, j, none⟩ = some v → w9.cell? ⟨qb, j, none⟩ = some v) := kq9
          have HK79 : Hid (∀ x j v, (x ≠ qb ∨ j ≠ qo + 3) → j ≠ 0 → w7.cell? ⟨x, j, none⟩ = some v → w9.cell? ⟨x, j, none⟩ = some v) := k79
          have HS79 : Hid (∀ x o, x ≠ qb → 0 < o → Sp w7 x o → Sp w9 x o) := s79
          have HKR : Hid (∀ j v, w8.cell? ⟨N + 1, j, none⟩ = some v → w9.cell? ⟨N + 1, j, none⟩ = some v) := kr
          have HQ9 : Hid (w9.cell? ⟨qb, qo + 3, none⟩ = some (.pointer (some ⟨N + 1, 0, none⟩))) := q9
          have hsum3 := sum68_inner qb qo (N + 1) N F 2 1 2 (fun i => if i = 0 then b else H) w9 rfl (by omega) (by omega) (kq9 _ _ (by omega) HQ.out.c2) hqN.1 (kr _ _ t1) ⟨_, kr _ _ t4⟩
            (by obtain ⟨x, y, z, v, z1, z2, z3, z4⟩ := t5; exact ⟨_, _, _, _, kr _ _ z1, kr _ _ z2, kr _ _ z3, kr _ _ z4⟩) (by obtain ⟨x, hx⟩ := t9; exact ⟨x, kr _ _ hx⟩) (fun j => (HC9.out.pln _ _ HPR.out).free j)
            (fun i hi' => by
              by_cases e : i = 0
              · subst e
                obtain ⟨x, hx⟩ := hSb7.c9
                exact ⟨kN 0 _ rfl, ⟨x, k79 _ _ _ (Or.inl (fun e => hqb.1 e.symm)) (by omega) hx⟩, s79 _ _ (fun e => hqb.1 e.symm) (by omega) hSb7.sp, hqN.2.1⟩
              · obtain rfl : i = 1 := by omega
                obtain ⟨x, hx⟩ := HS7.out.c9
                exact ⟨kN 1 _ rfl, ⟨x, k79 _ _ _ (Or.inl (fun e => hqH e.symm)) (by omega) hx⟩, s79 _ _ (fun e => hqH e.symm) (by omega) HS7.out.sp, hqN.2.2.2.2⟩)
            (k79 _ _ _ (Or.inl (fun e => hqb.1 e.symm)) (by omega) hSb7.c4) (by omega)
          have HSUM3 : Hid (Calls Ybaz.prog 68 #[.pointer (some ⟨qb, qo, none⟩), .pointer (some ⟨N + 1, 0, none⟩)] w9 fun e w' => e = .returned (.tuple #[]) ∧ Chg (S49 (N + 1)) w9 w' ∧ Summed w' (N + 1) F) := hsum3
          clear hsum3 hw9 C9 b9 h9 q8 b8 h8 fb8 fh8 k79 s79 kr kN kq9 t0 t1 t4 t5 t9 t23 hSb7
          go_wp2_with (first | (go_at_call 68; refine HSUM3.out.mono ?_; rintro e w10 ⟨rfl, hC10, hS10⟩; have HC10 : Hid (Chg (S49 (N + 1)) w9 w10) := hC10; have HS10 : Hid (Summed w10 (N + 1) F) := hS10; clear hC10 hS10) | go_in)
          refine bodyPost_ret (results_none rfl _ _ _) rfl ?_
          have k10 : ∀ x j v, x ≠ N + 1 ∨ j < 4 ∨ 9 < j → w9.cell? ⟨x, j, none⟩ = some v → w10.cell? ⟨x, j, none⟩ = some v := fun x j v h hc => HC10.out.keep hc (fun e => by have := e.1; have := e.2; omega)
          have s10 : ∀ x o, x ≠ N + 1 → Sp w9 x o → Sp w10 x o := fun x o h hs => HC10.out.sp hs (fun j _ _ e => h e.1)
          have hbN := hqN.2.1
          have hHN := hqN.2.2.2.2
          have hbq : b ≠ qb := fun e => hqb.1 e.symm
          have hHq : H ≠ qb := fun e => hqH e.symm
          have kb : ∀ j v, j ≠ 0 → w7.cell? ⟨b, j, none⟩ = some v → w10.cell? ⟨b, j, none⟩ = some v := fun j v hj hc => k10 _ _ _ (Or.inl hbN) (HK79.out _ _ _ (Or.inl hbq) hj hc)
          have kh : ∀ j v, j ≠ 0 → w7.cell? ⟨H, j, none⟩ = some v → w10.cell? ⟨H, j, none⟩ = some v := fun j v hj hc => k10 _ _ _ (Or.inl hHN) (HK79.out _ _ _ (Or.inl hHq) hj hc)
          have CT : Chg (XR A at' b qb KY) w w10 := (((HW7.out.mono (fun x j _ e => by rcases e with e | e | e; exact Or.inl e; exact Or.inr (Or.inl ⟨e.1, Or.inr e.2⟩); exact Or.inr (Or.inr (Or.inl e)))).trans HC8.out (fun x j _ e => Or.inr (Or.inr (Or.inr e.1)))).trans HC9.out (fun x j hx e => by rcases e.1 with e1 | e1; exact Or.inr (Or.inl ⟨e1, Or.inl e.2⟩); have := HH.out; omega)).trans HC10.out (fun x j hx e => by have := e.1; have := HNN.out; have := HW7.out.size; omega)
          have w6b : ∀ j v, (j < 4 ∨ 9 < j) → j ≠ 1 → w.cell? ⟨b, j, none⟩ = some v → w7.cell? ⟨b, j, none⟩ = some v := fun j v h1 h2 hc => HC7.out.keep (HC6.out.keep (HKEEPB.out j v h2 hc) (fun e => by have := e.2; omega)) (fun e => hbHne e.1)
          have IB : InnerAt w10 (some (N + 1)) (G.F b) (G.A b) (G.C b) (K.take at') b := by
            rw [← hFe.out, ← hA.out, ← hCe.out]
            have htk : (K.take at').length = at' := by rw [List.length_take, hK]; omega
            refine ⟨⟨CT.pln _ _ HB.out.node.pl, k10 _ _ _ (Or.inl hbN) H99.out.1, kb 4 _ (by omega) HSB7.out.c4, s10 _ _ hbN (HS79.out _ _ hbq (by omega) HSB7.out.sp), ?_, kb 23 _ (by omega) (w6b 23 _ (by omega) (by omega) HB.out.node.c23)⟩, ?_, ?_⟩
            · obtain ⟨x, hx⟩ := HSB7.out.c9; exact ⟨x, kb 9 _ (by omega) hx⟩
            · rw [htk]; exact kb 1 _ (by omega) (HC7.out.keep (HC6.out.keep HB1.out (fun e => by have := e.2; omega)) (fun e => hbHne e.1))
            · have ka := HB.out.ka
              rw [htk]
              refine ⟨fun j v hj => ?_, fun j hj => CT.has _ _ (ka.room j hj), fun j => (CT.froz A j hAw).trans (ka.free j), CT.shp _ _ ka.shp, by rw [List.length_map, htk, Nat.mul_one], by omega, ka.cm, fun v hv => ka.one v (by rw [List.map_take] at hv; exact List.mem_of_mem_take hv)⟩
              rw [List.map_take, List.getElem?_take] at hj
              split at hj
              · rename_i hjl
                refine CT.keep (ka.cell j v hj) (fun e => ?_)
                rcases e with e | e | e | e
                · have := e.2; omega
                · exact hbA e.1.symm
                · exact HNB.out.2.2 e.1
                · exact hqb.2 e.symm
              · cases hj
          have IC : InnerAt w10 (some (N + 1)) (FK kc) (H + 1) 9 KY H := by
            obtain ⟨hh1, hh2, hh3⟩ := HHH.out
            obtain ⟨z0, _, _, _, z23⟩ := HE.out
            have lo7 : ∀ j v, (j < 4 ∨ 9 < j) → w5.cell? ⟨H, j, none⟩ = some v → w7.cell? ⟨H, j, none⟩ = some v := fun j v h1 hc => HC7.out.keep (HC6.out.keep hc (fun e => hHb.1 e.1)) (fun e => by have := e.2; omega)
            refine ⟨⟨HC10.out.pln _ _ (HC9.out.pln _ _ (HC8.out.pln _ _ (HC7.out.pln _ _ (HC6.out.pln _ _ HPH.out)))), k10 _ _ _ (Or.inl hHN) H99.out.2, kh 4 _ (by omega) HS7.out.c4, s10 _ _ hHN (HS79.out _ _ hHq (by omega) HS7.out.sp), ?_, kh 23 _ (by omega) (lo7 23 _ (by omega) (hh1 23 _ (by omega) z23))⟩, ?_, ?_⟩
            · obtain ⟨x, hx⟩ := HS7.out.c9; exact ⟨x, kh 9 _ (by omega) hx⟩
            · rw [HYL.out]; exact kh 1 _ (by omega) (lo7 1 _ (by omega) hh2)
            · rw [HYL.out]
              have e1 : KY.map ptr = (K.map ptr).drop at' := by rw [HKY.out, List.map_drop]
              rw [e1]
              have hq1 : qb ≠ H + 1 := by obtain ⟨tq, hq0⟩ := HQ.out.pl; have := hq0.lt; have := HH.out; omega
              have a7 := ((HKA4.out.next HC5.out (fun j e => HHK.out.2 e.1)).next HC6.out (fun j e => hHb.2.2.1 e.1)).next HC7.out (fun j e => by have := e.1; omega)
              have hlt7 := a7.lt
              exact ((a7.next HC8.out (fun j e => hq1 e.1.symm)).next HC9.out (fun j e => by rcases e.1 with e1 | e1; exact hHb.2.2.1 e1; omega)).next HC10.out (fun j e => by have := e.1; have := HNN.out; omega)
          have IR : InnerAt w10 none (G.F b) N 2 [b, H] (N + 1) := by
            rw [← hFe.out]
            obtain ⟨t0, t1, t4, t5, t9, t23⟩ := HTT.out
            refine ⟨⟨HC10.out.pln _ _ (HC9.out.pln _ _ HPR.out), k10 _ _ _ (Or.inr (Or.inl (by omega))) (HKR.out _ _ t0), HS10.out.c4, HS10.out.sp, HS10.out.c9, k10 _ _ _ (Or.inr (Or.inr (by omega))) (HKR.out _ _ t23)⟩, k10 _ _ _ (Or.inr (Or.inl (by omega))) (HKR.out _ _ t1), ?_⟩
            exact (HAN.out.next HC9.out (fun j e => by have := hqN; rcases e.1 with e | e <;> omega)).next HC10.out (fun j e => by have := e.1; omega)
          have IK : ∀ k ∈ KY, w10.cell? ⟨k, 0, none⟩ = some (ptr H) := fun k hk => by
            have hkH := (HKYK.out k hk).2
            have hkb : k ≠ b := fun e => HNB.out.1 (e ▸ hk)
            have hkq : k ≠ qb := fun e => HNB.out.2.1 (e ▸ hk)
            have h7 : w7.cell? ⟨k, 0, none⟩ = some (ptr H) := HC7.out.keep (HC6.out.keep (HD5.out k hk) (fun e => hkb e.1)) (fun e => by have := e.1; omega)
            exact k10 _ _ _ (Or.inr (Or.inl (by omega))) (HC9.out.keep (HC8.out.keep h7 (fun e => hkq e.1)) (fun e => by rcases e.1 with e | e; exact hkb e; omega))
          have hH7 := (HC7.out.pln _ _ (HC6.out.pln _ _ HPH.out)).lt
          have hA7 := (((HKA4.out.next HC5.out (fun j e => HHK.out.2 e.1)).next HC6.out (fun j e => hHb.2.2.1 e.1)).next HC7.out (fun j e => by have := e.1; omega)).lt
          obtain ⟨G2, j1, j2, j3⟩ := inv_cut_root (at' := at') (H := H) (fc := FK kc) (N := N) (r := N + 1) (qb := qb) (KX := K.take at') (KY := KY) HI.out hlD (by rw [HKY.out, List.take_append_drop, hKe.out]) (by rw [List.length_take, hK]; omega) (by rw [HYL.out]; omega) ⟨kc, HKC.out, by rw [hFK.out]⟩ (by rw [HH.out]; exact Nat.le_refl _) (by have := HNN.out; omega) (by have := HNN.out; omega) (by omega) HRQ.out (by rw [← hA.out]; exact CT) IB IC IR IK
          have kq10 : ∀ j v, j ≠ qo + 3 → w.cell? ⟨qb, j, none⟩ = some v → w10.cell? ⟨qb, j, none⟩ = some v := fun j v hj hc => k10 _ _ _ (Or.inl hqN.1) (HKQ9.out j v hj hc)
          refine ⟨rfl, G2, N + 1, j1, j2, ?_, ?_, j3⟩
          · obtain ⟨tq, hq0⟩ := HQ.out.pl
            exact ⟨⟨tq, CT.pln _ _ hq0⟩, kq10 _ _ (by omega) HQ.out.c0, kq10 _ _ (by omega) HQ.out.c1, kq10 _ _ (by omega) HQ.out.c2, k10 _ _ _ (Or.inl hqN.1) HQ9.out⟩
          · have hRb := HI.out.shape.own (l + 1) (by omega) b HBL.out
            have hRk : ∀ k ∈ KY, G.R k ≠ none := fun k hk => by rw [(HI.out.shape.own l (by omega) k (HI.out.shape.kid l hD1 b k HBL.out (by rw [← hKe.out]; exact (HKYK.out k hk).1))).1]; simp
            have hRA : G.R A ≠ none := by rw [hA.out, hRb.2.1]; simp
            have hRB : G.R b ≠ none := by rw [hRb.1]; simp
            exact (((HW7.out.mono (fun x j _ e => Or.inl (by rcases e with e | e | e; rw [e.1]; exact hRA; rw [e.1]; exact hRB; exact hRk x e.1))).trans HC8.out (fun x j _ e => Or.inr e)).trans HC9.out (fun x j hx e => by rcases e.1 with e1 | e1; exact Or.inl (by rw [e1]; exact hRB); have := HH.out; omega)).trans HC10.out (fun x j hx e => by have := e.1; have := HNN.out; have := HW7.out.size; omega)

/-- split of an inner block, whatever stands above it. -/
theorem split_inner : ∀ (d : Nat) (G : Gh) (w : World) (l b root qb qo sl : Nat) (last : Bool), l + 1 + d = G.D → Inv w G (some b) root → b ∈ G.L (l + 1) → (G.K b).length = 9 → QAt w qb qo sl root → G.R qb = none →
    Calls Ybaz.prog 42 #[.pointer (some ⟨qb, qo, none⟩), .pointer (some ⟨b, 0, none⟩), .bool last] w (SplitPost w G qb qo sl)
  | 0, G, w, l, b, root, qb, qo, sl, last, hd, hI, hbL, hK, hq, hR => by
    have hlD : l + 1 = G.D := by omega
    have e : b = root := by rw [hlD, hI.shape.top] at hbL; simpa using hbL
    subst e
    exact split_inner_root G w l b qb qo sl last hlD hI hK hq hR
  | d + 1, G, w, l, b, root, qb, qo, sl, last, hd, hI, hbL, hK, hq, hR => by
    have hl2 : l + 1 < G.D := by omega
    have h2 : b ∈ (G.L (l + 2)).flatMap G.K := by rw [hI.shape.chain (l + 1) hl2]; exact hbL
    obtain ⟨u, hu1, hu2⟩ := List.mem_flatMap.1 h2
    exact split_inner_step G w l b u root qb qo sl last hl2 hI hbL hK (hI.shape.up (l + 1) hl2 u hu1 b hu2) hq hR
      (fun G2 w2 last2 hD hI2 huL hK2 hq2 hR2 => split_inner d G2 w2 (l + 1) u root qb qo sl last2 (by omega) hI2 huL hK2 hq2 hR2)
end Go.Proofs.YbulkdxqmGreatFmt
