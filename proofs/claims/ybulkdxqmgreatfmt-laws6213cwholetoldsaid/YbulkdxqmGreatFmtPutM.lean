/- LawS6213CWhole: the tree in memory behind a job put into a leaf. -/
import Derived.Test.YbulkdxqmGreatFmtPut
import Derived.Test.YbulkdxqmGreatFmtTree
namespace Go.Proofs.YbulkdxqmGreatFmt
set_option linter.unusedVariables false
open Go.RowKit

/-- What the putting of a job turns. -/
def XP (A S b : Nat) (P Q : Nat → Prop) (x t : Nat) : Prop := x = A ∨ x = S ∨ (x = b ∧ (t = 2 ∨ t = 3)) ∨ (P x ∧ 4 ≤ t ∧ t ≤ 9) ∨ Q x

theorem inv_put {w w' : World} {G : Gh} {root b i j : Nat} {P Q : Nat → Prop} (hI : Inv w G none root) (hb : b ∈ G.L 0) (hi : i ≤ (G.J b).length) (hn : G.flat.Nodup) (hfirst : i = 0 → G.F b = G.F root)
    (hP : ∀ x, P x → ∃ l, l ≤ G.D ∧ anc G l b = some x) (hQ : ∀ x, x < w.heap.size → Q x → G.R x = none) (hC : Chg (XP (G.A b) (G.S b) b P Q) w w')
    (hj2 : w'.cell? ⟨b, 2, none⟩ = some (.slice (some ⟨G.A b, 0, none⟩) ((G.J b).length + 1) 17)) (hj3 : w'.cell? ⟨b, 3, none⟩ = some (.slice (some ⟨G.S b, 0, none⟩) ((G.J b).length + 1) 17))
    (hja : Arr w' (G.A b) 23 1 ((G.J b).length + 1) 17 ((insAt (G.J b) i j).map ptr)) (hsa : ∃ xs, Arr w' (G.S b) 134 4 ((G.J b).length + 1) 17 xs ∧ SpL ((G.J b).length + 1) xs)
    (hnode : ∀ l x, l ≤ G.D → anc G l b = some x → w'.cell? ⟨x, 4, none⟩ = some (ptr (if i = 0 then j else G.F x)) ∧ Sp w' x 5 ∧ I64 w' x 9) :
    Inv w' (G.put b i j) (if (G.J b).length = 16 then some b else none) root := by
  have hS := hI.shape
  obtain ⟨ob1, ob2, ob3⟩ := hS.own 0 (by omega) b hb
  have ob3 := ob3 rfl
  -- what is turned of a node: nothing but cells 2 .. 9
  have far : ∀ l, l ≤ G.D → ∀ x ∈ G.L l, x ≠ G.A b ∧ x ≠ G.S b ∧ ¬ Q x := fun l hl x hx => by
    obtain ⟨o1, _, _⟩ := hS.own l hl x hx
    refine ⟨fun e => ?_, fun e => ?_, fun e => ?_⟩
    · rw [e, ob2] at o1; injection o1 with e2; injection e2 with e3 e4; cases e4
    · rw [e, ob3] at o1; injection o1 with e2; injection e2 with e3 e4; cases e4
    · rw [hQ x (hI.node l hl x hx).pl.lt e] at o1; cases o1
  have keepN : ∀ l, l ≤ G.D → ∀ x ∈ G.L l, ∀ t v, (t < 2 ∨ 9 < t) → w.cell? ⟨x, t, none⟩ = some v → w'.cell? ⟨x, t, none⟩ = some v := fun l hl x hx t v ht hc => hC.keep hc (fun e => by
    obtain ⟨f1, f2, f3⟩ := far l hl x hx
    rcases e with e | e | e | e | e
    · exact f1 e
    · exact f2 e
    · have := e.2; omega
    · have := e.2; omega
    · exact f3 e)
  have node : ∀ l, l ≤ G.D → ∀ x ∈ G.L l, NodeAt w' (G.U x) ((G.put b i j).F x) x := fun l hl x hx => by
    obtain ⟨f1, f2, f3⟩ := far l hl x hx
    have hN := hI.node l hl x hx
    by_cases ha : anc G l b = some x
    · obtain ⟨k4, k5, k9⟩ := hnode l x hl ha
      refine ⟨hC.pln _ _ hN.pl, keepN l hl x hx _ _ (by omega) hN.c0, ?_, k5, k9, keepN l hl x hx _ _ (by omega) hN.c23⟩
      rw [k4]
      congr 2
      show _ = (if i = 0 ∧ G.F x = G.F b then j else G.F x)
      by_cases e0 : i = 0
      · rw [if_pos e0, if_pos ⟨e0, hS.first_anc hn b hb (hfirst e0) l hl x ha⟩]
      · rw [if_neg e0, if_neg (fun c => e0 c.1)]
    · have hPx : ¬ P x := fun e => by
        obtain ⟨l', hl', e2⟩ := hP x e
        obtain ⟨y, hy, hyL⟩ := hS.anc_mem b hb l' hl'
        rw [hy] at e2
        obtain rfl := Option.some.inj e2
        obtain rfl := hS.lev l l' y hl hl' hx hyL
        exact ha hy
      have keep4 : ∀ t v, 4 ≤ t → w.cell? ⟨x, t, none⟩ = some v → w'.cell? ⟨x, t, none⟩ = some v := fun t v ht hc => hC.keep hc (fun e => by
        rcases e with e | e | e | e | e
        · exact f1 e
        · exact f2 e
        · have := e.2; omega
        · exact hPx e.1
        · exact f3 e)
      have eF : (G.put b i j).F x = G.F x := if_neg (fun c => ha (hS.anc_first hn l hl x hx b hb c.2))
      rw [eF]
      obtain ⟨s1, s2, s3, t1, t2, t3, t4⟩ := hN.sp
      obtain ⟨v9, h9⟩ := hN.c9
      exact ⟨hC.pln _ _ hN.pl, keepN l hl x hx _ _ (by omega) hN.c0, keep4 _ _ (by omega) hN.c4, ⟨s1, s2, s3, keep4 _ _ (by omega) t1, keep4 _ _ (by omega) t2, keep4 _ _ (by omega) t3, keep4 _ _ (by omega) t4⟩, ⟨v9, keep4 _ _ (by omega) h9⟩, keepN l hl x hx _ _ (by omega) hN.c23⟩
  -- another node's arrays
  have farA : ∀ l, l ≤ G.D → ∀ x ∈ G.L l, x ≠ b → G.A x < w.heap.size → ∀ t, ¬ XP (G.A b) (G.S b) b P Q (G.A x) t := fun l hl x hx hxb hlt t e => by
    obtain ⟨_, o2, _⟩ := hS.own l hl x hx
    rcases e with e | e | e | e | e
    · rw [e, ob2] at o2; injection o2 with e2; injection e2 with e3; exact hxb e3.symm
    · rw [e, ob3] at o2; injection o2 with e2; injection e2 with e3 e4; cases e4
    · rw [e.1, ob1] at o2; injection o2 with e2; injection e2 with e3 e4; cases e4
    · obtain ⟨l', hl', e2⟩ := hP _ e.1
      obtain ⟨y, hy, hyL⟩ := hS.anc_mem b hb l' hl'
      rw [hy] at e2
      obtain rfl := Option.some.inj e2
      obtain ⟨p1, _, _⟩ := hS.own l' hl' (G.A x) hyL
      rw [p1] at o2; injection o2 with e2; injection e2 with e3 e4; cases e4
    · rw [hQ _ hlt e] at o2; cases o2
  have farS : ∀ x ∈ G.L 0, x ≠ b → G.S x < w.heap.size → ∀ t, ¬ XP (G.A b) (G.S b) b P Q (G.S x) t := fun x hx hxb hlt t e => by
    obtain ⟨_, _, o3⟩ := hS.own 0 (by omega) x hx
    have o3 := o3 rfl
    rcases e with e | e | e | e | e
    · rw [e, ob2] at o3; injection o3 with e2; injection e2 with e3 e4; cases e4
    · rw [e, ob3] at o3; injection o3 with e2; injection e2 with e3; exact hxb e3.symm
    · rw [e.1, ob1] at o3; injection o3 with e2; injection e2 with e3 e4; cases e4
    · obtain ⟨l', hl', e2⟩ := hP _ e.1
      obtain ⟨y, hy, hyL⟩ := hS.anc_mem b hb l' hl'
      rw [hy] at e2
      obtain rfl := Option.some.inj e2
      obtain ⟨p1, _, _⟩ := hS.own l' hl' (G.S x) hyL
      rw [p1] at o3; injection o3 with e2; injection e2 with e3 e4; cases e4
    · rw [hQ _ hlt e] at o3; cases o3
  refine ⟨hS.put hb hi hn, fun x hx => ?_, fun l hl x hx => ?_, fun x hx => hI.new x (Nat.le_trans hC.size hx)⟩
  · have hN := node 0 (by omega) x hx
    have hL := hI.leaf x hx
    by_cases e : x = b
    · subst e
      have eJ : (G.put x i j).J x = insAt (G.J x) i j := if_pos rfl
      show LeafAt w' (G.U x) ((G.put x i j).F x) (G.A x) (G.S x) ((G.put x i j).J x) x
      rw [eJ]
      have hl := insAt_length (G.J x) i j hi
      exact ⟨hN, keepN 0 (by omega) x hx _ _ (by omega) hL.c1, by rw [hl]; exact hj2, by rw [hl]; exact hj3, by rw [hl]; exact hja, by rw [hl]; exact hsa⟩
    · have eJ : (G.put b i j).J x = G.J x := if_neg e
      show LeafAt w' (G.U x) ((G.put b i j).F x) (G.A x) (G.S x) ((G.put b i j).J x) x
      rw [eJ]
      obtain ⟨f1, f2, f3⟩ := far 0 (by omega) x hx
      have k23 : ∀ t v, t < 4 → w.cell? ⟨x, t, none⟩ = some v → w'.cell? ⟨x, t, none⟩ = some v := fun t v ht hc => hC.keep hc (fun e' => by
        rcases e' with e' | e' | e' | e' | e'
        · exact f1 e'
        · exact f2 e'
        · exact e e'.1
        · have := e'.2; omega
        · exact f3 e')
      obtain ⟨xs, h1, h2⟩ := hL.sa
      exact ⟨hN, k23 _ _ (by omega) hL.c1, k23 _ _ (by omega) hL.c2, k23 _ _ (by omega) hL.c3, hL.ja.next hC (farA 0 (by omega) x hx e hL.ja.lt), xs, h1.next hC (farS x hx e h1.lt), h2⟩
  · have hxb : x ≠ b := by
      rintro rfl
      have := hS.lev (l + 1) 0 x (by have : l < G.D := hl; omega) (by omega) hx hb
      omega
    have hl' : l < G.D := hl
    have hL := hI.inner l hl' x hx
    exact ⟨node (l + 1) (by omega) x hx, keepN (l + 1) (by omega) x hx _ _ (by omega) hL.c1, hL.ka.next hC (farA (l + 1) (by omega) x hx hxb hL.ka.lt)⟩

/-- Which level a node is on. -/
def levOf (G : Gh) (x : Nat) : Nat := ((List.range (G.D + 1)).find? (fun l => decide (x ∈ G.L l))).getD 0
theorem Shape.levOf {G : Gh} {over : Option Nat} {root : Nat} (h : Shape G over root) (l : Nat) (hl : l ≤ G.D) (x : Nat) (hx : x ∈ G.L l) : levOf G x = l := by
  unfold YbulkdxqmGreatFmt.levOf
  cases hf : (List.range (G.D + 1)).find? (fun l => decide (x ∈ G.L l)) with
  | none =>
    have := List.find?_eq_none.1 hf l (List.mem_range.2 (by omega))
    simp [hx] at this
  | some l' =>
    have h1 := List.find?_some hf
    have h2 := List.mem_range.1 (List.mem_of_find?_eq_some hf)
    exact h.lev l' l x (by omega) hl (by simpa using h1) hx
def blkOf : Value → Nat
  | .pointer (some a) => a.block
  | _ => 0
end Go.Proofs.YbulkdxqmGreatFmt
