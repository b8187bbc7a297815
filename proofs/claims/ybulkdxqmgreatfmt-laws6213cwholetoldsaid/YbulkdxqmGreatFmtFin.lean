/- LawS6213CWhole: what the law's end leans on: rows of the call's own, sorted and compared; the queues as they are read. -/
import Derived.Test.YbulkdxqmGreatFmtInit
import Derived.Test.YbulkdxqmGreatFmtIds
import Derived.Test.YbulkdxqmGreatFmtShelf
import Derived.Sort.OwnSortedInts
import Derived.Lib.Builder
namespace Go.Proofs.YbulkdxqmGreatFmt
set_option linter.unusedVariables false
open Go.RowKit

theorem Chg.of_grown {w w' : World} {g : Nat} {cur cs : Array Value} {e : TypeId} (hg : w.grownBy w' (some g)) (h1 : w.heap[g]? = some (.cells cur e (0, 0))) (h2 : w'.heap[g]? = some (.cells cs e (0, 0))) (hs : cs.size = cur.size) : Chg (fun x _ => x = g) w w' := by
  have hb : ∀ x, x < w.heap.size → x ≠ g → w'.heap[x]? = w.heap[x]? := fun x hx hne => hg.block x hx (fun e => hne (by simpa using e))
  refine ⟨hg.size, hg.os, hg.tape, hg.output, fun x j hx hn => World.cell?_of_block (hb x hx hn), fun x j hx => ?_, fun x s hs' => ?_, fun x j hs' => ?_, fun x hx hn => hb x hx (hn 0), fun x t hp => ?_⟩
  · by_cases e : x = g
    · subst e; simp [World.frozen?, h1, h2]
    · exact World.frozen?_of_block (hb x hx e)
  · by_cases e : x = g
    · subst e
      simp only [World.shape?, h1] at hs'
      simp only [World.shape?, h2, hs]; exact hs'
    · have hlt := shape_lt hs'
      unfold World.shape? at hs' ⊢
      rw [hb x hlt e]; exact hs'
  · by_cases e : x = g
    · subst e
      rw [cell_of_row _ _ _ _ _ _ h1] at hs'
      rw [cell_of_row _ _ _ _ _ _ h2]
      obtain ⟨u, hu⟩ := Option.isSome_iff_exists.1 hs'
      have := (Array.getElem?_eq_some_iff.1 hu).1
      rw [Array.getElem?_eq_getElem (by omega)]; rfl
    · rw [World.cell?_of_block (hb x (some_lt hs') e)]; exact hs'
  · by_cases e : x = g
    · subst e; obtain ⟨T, hT⟩ := hp
      rw [h1] at hT; cases hT
      exact ⟨cs, h2⟩
    · obtain ⟨T, hT⟩ := hp
      exact ⟨T, (hb x (Array.getElem?_eq_some_iff.1 hT).1 e).trans hT⟩

/-- A row of the call's own, as a walk reads it. -/
theorem own_slice {W : World} {base e n : Nat} {v : Value} {xs : List Value} (h : W.ownsRow base e 1 v n xs) : xs.length = n ∧ ∃ ad cp, v = .slice ad n cp ∧ ∀ k x, xs[k]? = some x → ∃ g, ad = some ⟨g, 0, none⟩ ∧ g < W.heap.size ∧ W.cell? ⟨g, k, none⟩ = some x := by
  have hl : xs.length = n := by have := h.1; omega
  refine ⟨hl, ?_⟩
  have h' := h
  rcases h.2 with ⟨rfl, rfl⟩ | ⟨g, cap, cur, rfl, hb, hg, hn, hcm, hcs, ht⟩
  · refine ⟨none, 0, rfl, fun k x hk => ?_⟩
    obtain rfl : xs = [] := List.length_eq_zero_iff.1 hl
    simp at hk
  · refine ⟨some ⟨g, 0, none⟩, cap, rfl, fun k x hk => ⟨g, rfl, (Array.getElem?_eq_some_iff.1 hg).1, ?_⟩⟩
    have := (List.getElem?_eq_some_iff.1 hk).1
    rw [h'.cellAt k (by omega)]; exact hk

/-- slices.Sort at a row of the call's own. -/
theorem sort7_own {W : World} {base : Nat} {v : Value} (zs : List Int) (h : W.ownsRow base 2 1 v zs.length (zs.map (Value.int .i64))) (hz : zs.length ≤ 1000000) :
    Calls Ybaz.prog 7 #[v] W fun e w' => e = .returned (.tuple #[]) ∧ w'.ownsRow base 2 1 v (zs.mergeSort fun x y => decide (x ≤ y)).length ((zs.mergeSort fun x y => decide (x ≤ y)).map (Value.int .i64)) ∧ Chg (fun x _ => v.ownBlock = some x) W w' := by
  have h' := h
  have hml : (zs.mergeSort fun x y => decide (x ≤ y)).length = zs.length := List.length_mergeSort zs
  rcases h.2 with ⟨rfl, h0⟩ | ⟨g, cap, cur, rfl, hb, hg, hn, hcm, hcs, ht⟩
  · obtain rfl : zs = [] := List.length_eq_zero_iff.1 h0
    refine (Ybaz.slices_Sort_int_none none 0 W).mono ?_
    rintro e w' ⟨rfl, rfl⟩
    exact ⟨rfl, by simpa using h', Chg.refl _ _⟩
  · refine (Ybaz.slices_Sort_int g 0 cap zs W (holds_of_blockI hg (by simpa using ht)) (Array.getElem?_eq_some_iff.1 hg).1 (by omega)).mono ?_
    rintro e w' ⟨rfl, n, os, rfl⟩
    refine ⟨rfl, ?_, (Chg.of_grown (grownBy_sortedI _) hg (heap_sortedI _ hg) (by simp [Go.Sort.putCells])).mono (fun x j _ hx => by simp [Value.ownBlock, hx])⟩
    rw [hml]
    exact ownsRow_sortedI hml hb hg hn hcm hcs

set_option maxRecDepth 100000 in
theorem equal8_nil (a1 a2 : Option Addr) (c1 c2 : Nat) (w : World) : Calls Ybaz.prog 8 #[.slice a1 0 c1, .slice a2 0 c2] w fun e w' => e = .returned (.bool true) ∧ ∃ q, w' = w.drewN q := by
  go_enter Ybaz.func8, Ybaz.ntmps8
  go_wp2
  go_loop [13] (fun v => v = .int .i64 0) (fun _ => 0)
  case atStart => rfl
  case round =>
    subst hrel
    go_wp2
    go_ret
    exact ⟨rfl, 0, rfl⟩

theorem neq37 (x : Addr) (w : World) : (binOp .neq 37 (.pointer (some x)) (.pointer (some x))).run Ybaz.prog w = .ok (.bool false) w := by
  obtain ⟨j, hj, -⟩ := Option.map_eq_some_iff.1 (show (Ybaz.prog.info? 39).map (fun i => decide (i.size ≠ 0)) = some true by kernel_rfl)
  exact Lib.run_neq_ptr_same w x Ybaz.underlying37 hj
theorem eqIn47 (w : World) (d : Nat) (a : Option Addr) (n c : Nat) : (Op.equalIn (d + 1) 47 (.slice a n c) (.slice none 0 0)).run Ybaz.prog w = .ok a.isNone w := by
  cases a <;> simp [Op.equalIn, run_underlying Ybaz.underlying47]
theorem neq47 (w : World) (a : Option Addr) (n c : Nat) : (binOp .neq 47 (.slice a n c) (.slice none 0 0)).run Ybaz.prog w = .ok (.bool (!a.isNone)) w := by
  have h : (Op.equal 47 (.slice a n c) (.slice none 0 0)).run Ybaz.prog w = .ok a.isNone w := eqIn47 w 9999 a n c
  simp [binOp, h]

/-- Where the run of equal slots ends. -/
theorem edge {ws : List (Int × Int)} {k : Nat} {p : Int × Int} (h : ws[k]? = some p) (ha : ws.Pairwise (fun a b => a.1 < b.1)) (hc : ∀ p ∈ ws, 0 < p.2) : offW ws (k + 1) = (flatW ws).length ∨ (offW ws (k + 1) < (flatW ws).length ∧ ∃ v, (flatW ws)[offW ws (k + 1)]? = some v ∧ v ≠ p.1) := by
  have hk := (List.getElem?_eq_some_iff.1 h).1
  by_cases e : k + 1 = ws.length
  · left; rw [e]; exact offW_all ws
  · right
    have hk1 : k + 1 < ws.length := by omega
    have h1 : ws[k + 1]? = some ws[k + 1] := List.getElem?_eq_getElem hk1
    have hp := hc _ (List.getElem_mem hk1)
    have hs := offW_succ h1
    have hf := flat_at h1 (Nat.le_refl _) (by omega)
    refine ⟨(List.getElem?_eq_some_iff.1 hf).1, _, hf, ?_⟩
    have := asc_at ha (Nat.lt_succ_self k) h1 h
    omega

/-- slices.Equal at two rows of the call's own that hold the same. -/
theorem equal8_own {W : World} {b1 b2 : Nat} {v1 v2 : Value} (zs : List Int) (h1 : W.ownsRow b1 2 1 v1 zs.length (zs.map (Value.int .i64))) (h2 : W.ownsRow b2 2 1 v2 zs.length (zs.map (Value.int .i64))) (hz : zs.length ≤ 1000000) :
    Calls Ybaz.prog 8 #[v1, v2] W fun e w' => e = .returned (.bool true) ∧ ∃ q, w' = W.drewN q := by
  obtain ⟨-, a1, c1, rfl, k1⟩ := own_slice h1
  obtain ⟨-, a2, c2, rfl, k2⟩ := own_slice h2
  by_cases h0 : zs = []
  · subst h0; exact equal8_nil a1 a2 c1 c2 W
  have hp : 0 < zs.length := List.length_pos_iff.2 h0
  have hg : ∀ j (hj : j < zs.length), (zs.map (Value.int .i64))[j]? = some (.int .i64 zs[j]!) := fun j hj => by
    rw [List.getElem?_map, List.getElem?_eq_getElem hj, getElem!_pos zs j hj]; rfl
  obtain ⟨g1, rfl, -, -⟩ := k1 0 _ (hg 0 hp)
  obtain ⟨g2, rfl, -, -⟩ := k2 0 _ (hg 0 hp)
  have e1 : ∀ j, j < zs.length → W.cell? ⟨g1, 0 + j, none⟩ = some (.int .i64 zs[j]!) := fun j hj => by
    obtain ⟨g, hg', -, hc⟩ := k1 j _ (hg j hj)
    cases hg'; rw [Nat.zero_add]; exact hc
  have e2 : ∀ j, j < zs.length → W.cell? ⟨g2, 0 + j, none⟩ = some (.int .i64 zs[j]!) := fun j hj => by
    obtain ⟨g, hg', -, hc⟩ := k2 j _ (hg j hj)
    cases hg'; rw [Nat.zero_add]; exact hc
  refine (Ybaz.slices_Equal (Value.int .i64) (fun x y => x == y) (NeqAt.int _ _ _) g1 0 zs.length c1 g2 0 zs.length c2 zs zs W (Nat.le_refl _) (Nat.le_refl _) (by omega) (by omega) e1 e2).mono ?_
  rintro e w' ⟨rfl, hq⟩
  refine ⟨?_, hq⟩
  rw [Lib.allEq_all _ _ _ rfl (fun j hj => by simp)]

section
variable {w W W' : World} {i : Nat} {T K : Nat → Prop} {P : List Nat} {id slots : Nat → Int} {sum want : Int} {v12 v13 v14 : Value} {L12 L13 L14 L : List Value} {X : Nat → Nat → Prop}
theorem St.put13 (h : St w W i T K P id slots sum want v12 v13 v14 L12 L13 L14) (ho : W'.ownsRow w.heap.size 2 1 v13 L.length L) (hc : Chg (fun x _ => v13.ownBlock = some x) W W') : St w W' i T K P id slots sum want v12 v13 v14 L12 L L14 := by
  have hl := h.bel.size
  refine ⟨h.core.next hc (fun x t hx e => (h.a13 x e).1 hx), own_of_block h.r12 (fun k hk => hc.blk k (h.r12.lt k hk).2 (fun t e => (h.a12 k hk).2.2.1 e)), ho, own_of_block h.r14 (fun k hk => hc.blk k (h.r14.lt k hk).2 (fun t e => (h.a13 k e).2.2 hk)), h.a12, h.a13, h.a14, fun x hx => ?_, h.mbT, h.seen.of_block (hc.blk _ h.seen.lt (fun t e => (h.a13 _ e).2.1 rfl)), Below.of_chg h.bel hl hc (fun x t hx e => by have := (h.r13.lt x e).1; omega)⟩
  obtain ⟨k1, k2, k3, k4, k5, k6⟩ := h.kp x hx
  exact ⟨k1, k2, k3, k4, k5, Nat.lt_of_lt_of_le k6 hc.size⟩
theorem St.put14 (h : St w W i T K P id slots sum want v12 v13 v14 L12 L13 L14) (ho : W'.ownsRow w.heap.size 2 1 v14 L.length L) (hc : Chg (fun x _ => v14.ownBlock = some x) W W') : St w W' i T K P id slots sum want v12 v13 v14 L12 L13 L := by
  have hl := h.bel.size
  refine ⟨h.core.next hc (fun x t hx e => (h.a14 x e).1 hx), own_of_block h.r12 (fun k hk => hc.blk k (h.r12.lt k hk).2 (fun t e => (h.a12 k hk).2.2.2 e)), own_of_block h.r13 (fun k hk => hc.blk k (h.r13.lt k hk).2 (fun t e => (h.a13 k hk).2.2 e)), ho, h.a12, h.a13, h.a14, fun x hx => ?_, h.mbT, h.seen.of_block (hc.blk _ h.seen.lt (fun t e => (h.a14 _ e).2 rfl)), Below.of_chg h.bel hl hc (fun x t hx e => by have := (h.r14.lt x e).1; omega)⟩
  obtain ⟨k1, k2, k3, k4, k5, k6⟩ := h.kp x hx
  exact ⟨k1, k2, k3, k4, k5, Nat.lt_of_lt_of_le k6 hc.size⟩
end

theorem Queue.reads {W : World} {qb qo sl spb : Nat} {n : Int} {R : Nat → Prop} {xs : List Nat} {id slots : Nat → Int} (h : Queue W qb qo sl spb n R xs id) (hj : ∀ k ∈ xs, JobAt W k (id k) (slots k)) : QRead W W.heap.size qb qo xs slots := by
  obtain ⟨t, hp⟩ := h.pl
  refine ⟨hp.lt, fun k hk => ⟨(hj k hk).pl.lt, (hj k hk).c8⟩, ?_⟩
  rcases h.st with ⟨h1, h2, h3⟩ | ⟨G, root, h1, h2, h3, h4⟩
  · exact Or.inl ⟨h1, h2⟩
  · exact Or.inr ⟨G, root, h1, h2, h3, fun x hx => h.lt x ((h4 x).2 hx)⟩

/-- What the law's end reads. -/
structure Ends (W : World) (sb wb : Nat) (P xs ys : List Nat) (ws : List (Int × Int)) (id slots : Nat → Int) : Prop where
  q1 : QRead W W.heap.size sb 17 xs slots
  q2 : QRead W W.heap.size wb 0 ys slots
  i1 : ∀ k ∈ xs, k < W.heap.size ∧ W.cell? ⟨k, 6, none⟩ = some (.int .i64 (id k))
  i2 : ∀ k ∈ ys, k < W.heap.size ∧ W.cell? ⟨k, 6, none⟩ = some (.int .i64 (id k))
  s1 : ((P.map id).mergeSort fun x y => decide (x ≤ y)) = xs.map id
  s2 : ((P.map id).mergeSort fun x y => decide (x ≤ y)) = ys.map id
  l1 : xs.length = P.length
  l2 : ys.length = P.length
  n1 : W.cell? ⟨sb, 21, none⟩ = some (.int .i64 P.length)
  n2 : W.cell? ⟨wb, 4, none⟩ = some (.int .i64 P.length)
  z1 : W.cell? ⟨sb, 22, none⟩ = some (.int .i64 0)
  z2 : W.cell? ⟨wb, 5, none⟩ = some (.int .i64 0)
  c25 : W.cell? ⟨sb, 25, none⟩ = some (.pointer (some ⟨wb, 0, none⟩))
  sw : ((P.map slots).mergeSort fun x y => decide (x ≤ y)) = flatW ws
  asc : ws.Pairwise (fun a b => a.1 < b.1)
  cnt : ∀ p ∈ ws, 0 < p.2 ∧ p.2 ≤ P.length
  big : ws.length ≤ P.length
  wid : ∃ ad c, W.cell? ⟨sb, 26, none⟩ = some (.slice ad ws.length c) ∧ ∀ k p, ws[k]? = some p → ∃ g, ad = some ⟨g, 0, none⟩ ∧ g < W.heap.size ∧ W.cell? ⟨g, k * 2, none⟩ = some (.int .i64 p.1) ∧ W.cell? ⟨g, k * 2 + 1, none⟩ = some (.int .i64 p.2)

theorem Core.ends {W : World} {n₀ sb wb spb nb : Nat} {T : Nat → Prop} {P : List Nat} {id slots : Nat → Int} {sum want : Int} (h : Core W n₀ sb wb spb nb T P id slots sum want) : ∃ xs ys ws, Ends W sb wb P xs ys ws id slots := by
  obtain ⟨R1, R2, Wd, xs, ys, ws, s1, s2, s3, s4, s5⟩ := h.sub
  have hj : ∀ k ∈ ys, JobAt W k (id k) (slots k) := fun k hk => (s1.job k ((s1.same k).2 hk)).1
  have e1 := ids_sorted s1.q1.so s2 h.nd
  have e2 := ids_sorted s1.q2.so (fun a => (s1.same a).symm.trans (s2 a)) h.nd
  refine ⟨xs, ys, ws, s1.q1.reads (fun k hk => (s1.job k hk).1), s1.q2.reads hj, fun k hk => ⟨(s1.job k hk).1.pl.lt, (s1.job k hk).1.c6⟩, fun k hk => ⟨(hj k hk).pl.lt, (hj k hk).c6⟩, e1.1, e2.1, e1.2, e2.2, s1.q1.c4, s1.q2.c4, s1.q1.c5, s1.q2.c5, s1.c25, slots_sorted s1.asc s4, s1.asc, s1.cnt, by have := s1.big; omega, ?_⟩
  rcases s1.wt.st with ⟨rfl, h2, h3⟩ | ⟨g, c, h1, h2, h3, h4⟩
  · exact ⟨none, 0, h2, fun k p hk => by simp at hk⟩
  · refine ⟨_, _, h1, fun k p hk => ⟨g, rfl, h2.lt, ?_, ?_⟩⟩
    · exact h2.cell _ _ (wl_at ws k p hk).1
    · exact h2.cell _ _ (wl_at ws k p hk).2
end Go.Proofs.YbulkdxqmGreatFmt
