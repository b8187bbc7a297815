/- LawS6213CWhole: a queue's tree as it lies in memory. -/
import Derived.Test.YbulkdxqmGreatFmtPure
import Derived.Test.YbulkdxqmGreatFmtArr
namespace Go.Proofs.YbulkdxqmGreatFmt
set_option linter.unusedVariables false
open Go.RowKit

def ptr (x : Nat) : Value := .pointer (some ⟨x, 0, none⟩)
def upv : Option Nat → Value
  | none => .pointer none
  | some u => .pointer (some ⟨u, 0, none⟩)

theorem Plain.free {w : World} {x t : Nat} (h : Plain w x t) (j : Nat) : w.frozen? ⟨x, j, none⟩ = false := by
  obtain ⟨T, hT⟩ := h
  exact frozen_of_row _ _ _ _ _ hT

structure NodeAt (w : World) (U : Option Nat) (F b : Nat) : Prop where
  pl : Plain w b 142
  c0 : w.cell? ⟨b, 0, none⟩ = some (upv U)
  c4 : w.cell? ⟨b, 4, none⟩ = some (ptr F)
  sp : Sp w b 5
  c9 : I64 w b 9
  c23 : w.cell? ⟨b, 23, none⟩ = some (.bool false)

/-- n spans, one behind another. -/
def SpL (n : Nat) (xs : List Value) : Prop := ∀ i, i < n → ∃ x y z, xs[i * 4]? = some (.int .i64 x) ∧ xs[i * 4 + 1]? = some (.int .i64 y) ∧ xs[i * 4 + 2]? = some (.int .i64 z) ∧ xs[i * 4 + 3]? = some (.float .f64 INF)

structure LeafAt (w : World) (U : Option Nat) (F A S : Nat) (J : List Nat) (b : Nat) : Prop where
  node : NodeAt w U F b
  c1 : w.cell? ⟨b, 1, none⟩ = some (.slice none 0 0)
  c2 : w.cell? ⟨b, 2, none⟩ = some (.slice (some ⟨A, 0, none⟩) J.length 17)
  c3 : w.cell? ⟨b, 3, none⟩ = some (.slice (some ⟨S, 0, none⟩) J.length 17)
  ja : Arr w A 23 1 J.length 17 (J.map ptr)
  sa : ∃ xs, Arr w S 134 4 J.length 17 xs ∧ SpL J.length xs

structure InnerAt (w : World) (U : Option Nat) (F A C : Nat) (K : List Nat) (b : Nat) : Prop where
  node : NodeAt w U F b
  c1 : w.cell? ⟨b, 1, none⟩ = some (.slice (some ⟨A, 0, none⟩) K.length C)
  ka : Arr w A 25 1 K.length C (K.map ptr)

theorem NodeAt.next {w w' : World} {S : Nat → Nat → Prop} {U : Option Nat} {F b : Nat} (h : NodeAt w U F b) (hc : Chg S w w') (hn : ∀ j, ¬ S b j) : NodeAt w' U F b :=
  ⟨hc.pln _ _ h.pl, hc.keep h.c0 (hn _), hc.keep h.c4 (hn _), hc.sp h.sp (fun j _ _ => hn j), by obtain ⟨x, hx⟩ := h.c9; exact ⟨x, hc.keep hx (hn _)⟩, hc.keep h.c23 (hn _)⟩
theorem LeafAt.next {w w' : World} {X : Nat → Nat → Prop} {U : Option Nat} {F A S b : Nat} {J : List Nat} (h : LeafAt w U F A S J b) (hc : Chg X w w') (hb : ∀ j, ¬ X b j) (hA : ∀ j, ¬ X A j) (hS : ∀ j, ¬ X S j) : LeafAt w' U F A S J b :=
  ⟨h.node.next hc hb, hc.keep h.c1 (hb _), hc.keep h.c2 (hb _), hc.keep h.c3 (hb _), h.ja.next hc hA, by obtain ⟨xs, h1, h2⟩ := h.sa; exact ⟨xs, h1.next hc hS, h2⟩⟩
theorem InnerAt.next {w w' : World} {X : Nat → Nat → Prop} {U : Option Nat} {F A C b : Nat} {K : List Nat} (h : InnerAt w U F A C K b) (hc : Chg X w w') (hb : ∀ j, ¬ X b j) (hA : ∀ j, ¬ X A j) : InnerAt w' U F A C K b :=
  ⟨h.node.next hc hb, hc.keep h.c1 (hb _), h.ka.next hc hA⟩

theorem SpL.sp {w : World} {g n c : Nat} {xs : List Value} (h : SpL n xs) (ha : Arr w g 134 4 n c xs) (i : Nat) (hi : i < n) : Sp w g (i * 4) := by
  obtain ⟨x, y, z, h1, h2, h3, h4⟩ := h i hi
  exact ⟨x, y, z, ha.cell _ _ h1, ha.cell _ _ h2, ha.cell _ _ h3, ha.cell _ _ h4⟩
theorem SpL.ins {n i : Nat} {xs vs : List Value} (h : SpL n xs) (hl : xs.length = n * 4) (hi : i ≤ n) (hv : SpL 1 vs) (hvl : vs.length = 4) : SpL (n + 1) (insL xs vs (i * 4)) := by
  intro t ht
  have key : ∀ r, r < 4 → (insL xs vs (i * 4))[t * 4 + r]? = if t < i then xs[t * 4 + r]? else if t = i then vs[r]? else xs[(t - 1) * 4 + r]? := by
    intro r hr
    rw [insL_at _ _ _ _ (by omega), hvl]
    by_cases c1 : t < i
    · rw [if_pos (by omega), if_pos c1]
    · rw [if_neg (by omega), if_neg c1]
      by_cases c2 : t = i
      · subst c2; rw [if_pos (by omega), if_pos rfl]; congr 1; omega
      · rw [if_neg (by omega), if_neg c2]; congr 1; omega
  have k0 := key 0 (by omega)
  have k1 := key 1 (by omega)
  have k2 := key 2 (by omega)
  have k3 := key 3 (by omega)
  rw [Nat.add_zero] at k0
  rw [k0, k1, k2, k3]
  by_cases c1 : t < i
  · simp only [if_pos c1, Nat.add_zero]; exact h t (by omega)
  · by_cases c2 : t = i
    · simp only [if_neg c1, if_pos c2]
      have := hv 0 (by omega)
      simpa using this
    · simp only [if_neg c1, if_neg c2, Nat.add_zero]; exact h (t - 1) (by omega)
theorem SpL.take {n m : Nat} {xs : List Value} (h : SpL n xs) (hm : m ≤ n) : SpL m (xs.take (m * 4)) := by
  intro i hi
  obtain ⟨x, y, z, h1, h2, h3, h4⟩ := h i (by omega)
  refine ⟨x, y, z, ?_, ?_, ?_, ?_⟩ <;> (rw [List.getElem?_take, if_pos (by omega)]; assumption)
theorem SpL.drop {n m : Nat} {xs : List Value} (h : SpL n xs) (hm : m ≤ n) : SpL (n - m) (xs.drop (m * 4)) := by
  intro i hi
  obtain ⟨x, y, z, h1, h2, h3, h4⟩ := h (m + i) (by omega)
  refine ⟨x, y, z, ?_, ?_, ?_, ?_⟩ <;> rw [List.getElem?_drop]
  · rw [show m * 4 + i * 4 = (m + i) * 4 by omega]; exact h1
  · rw [show m * 4 + (i * 4 + 1) = (m + i) * 4 + 1 by omega]; exact h2
  · rw [show m * 4 + (i * 4 + 2) = (m + i) * 4 + 2 by omega]; exact h3
  · rw [show m * 4 + (i * 4 + 3) = (m + i) * 4 + 3 by omega]; exact h4

/-- The tree in memory. -/
structure Inv (w : World) (G : Gh) (over : Option Nat) (root : Nat) : Prop where
  shape : Shape G over root
  leaf : ∀ b ∈ G.L 0, LeafAt w (G.U b) (G.F b) (G.A b) (G.S b) (G.J b) b
  inner : ∀ l, l < G.D → ∀ b ∈ G.L (l + 1), InnerAt w (G.U b) (G.F b) (G.A b) (G.C b) (G.K b) b
  new : ∀ x, w.heap.size ≤ x → G.R x = none
theorem Inv.node {w : World} {G : Gh} {over : Option Nat} {root : Nat} (h : Inv w G over root) (l : Nat) (hl : l ≤ G.D) (b : Nat) (hb : b ∈ G.L l) : NodeAt w (G.U b) (G.F b) b := by
  cases l with
  | zero => exact (h.leaf b hb).node
  | succ t => exact (h.inner t (by omega) b hb).node
/-- Two nodes share no block. -/
theorem Shape.apart {G : Gh} {over : Option Nat} {root : Nat} (h : Shape G over root) {l l' b x : Nat} (hl : l ≤ G.D) (hl' : l' ≤ G.D) (hb : b ∈ G.L l) (hx : x ∈ G.L l') (hne : x ≠ b) : G.A x ≠ b ∧ G.A x ≠ G.A b ∧ x ≠ G.A b := by
  obtain ⟨o1, o2, _⟩ := h.own l hl b hb
  obtain ⟨p1, p2, _⟩ := h.own l' hl' x hx
  refine ⟨fun e => ?_, fun e => ?_, fun e => ?_⟩
  · rw [e, o1] at p2; injection p2 with e2; injection e2 with e3 e4; cases e4
  · rw [e, o2] at p2; injection p2 with e2; injection e2 with e3; exact hne e3.symm
  · rw [← e, p1] at o2; injection o2 with e2; injection e2 with e3 e4; cases e4
end Go.Proofs.YbulkdxqmGreatFmt
