/- LawS6213CWhole: the tree in memory behind a split of a leaf that has a block above it. -/
import Derived.Test.YbulkdxqmGreatFmtCut
namespace Go.Proofs.YbulkdxqmGreatFmt
set_option linter.unusedVariables false
open Go.RowKit

/-- What the split of a leaf turns of the blocks that were there. -/
def XL (A at' b u Au sl : Nat) (JY : List Nat) (x j : Nat) : Prop := (x = A ∧ at' ≤ j) ∨ (x = b ∧ 2 ≤ j ∧ j ≤ 9) ∨ (x ∈ JY ∧ j = sl) ∨ x = Au ∨ (x = u ∧ j = 1)

theorem inv_cut_leaf {w w' : World} {G : Gh} {root b u at' sl H fc g' c' : Nat} {JX JY : List Nat} (hI : Inv w G (some b) root) (hD : 0 < G.D) (hbL : b ∈ G.L 0) (hUb : G.U b = some u) (huL : u ∈ G.L 1) (hbu : b ∈ G.K u)
    (hJX : JX ++ JY = G.J b) (hX1 : 0 < JX.length ∧ JX.length ≤ 16) (hY1 : 0 < JY.length ∧ JY.length ≤ 16) (hfc : JY.head? = some fc) (hJR : ∀ k ∈ JY, G.R k = none) (hH : w.heap.size ≤ H) (hg : g' = G.A u ∨ H + 3 ≤ g')
    (hC : Chg (XL (G.A b) at' b u (G.A u) sl JY) w w') (hb' : LeafAt w' (G.U b) (G.F b) (G.A b) (G.S b) JX b) (hc' : LeafAt w' (G.U b) fc (H + 1) (H + 2) JY H) (hu' : InnerAt w' (G.U u) (G.F u) g' c' (rep b H (G.K u)) u) :
    ∃ G2, G2.D = G.D ∧ Inv w' G2 (if (rep b H (G.K u)).length = 9 then some u else none) root ∧ G2.flat = G.flat ∧ (∀ x, x < w.heap.size → (G2.R x = none ↔ G.R x = none)) ∧ u ∈ G2.L 1 ∧ G2.K u = rep b H (G.K u) := by
  have hS := hI.shape
  have hRH : ∀ x, w.heap.size ≤ x → G.R x = none := hI.new
  have r1 := hRH H hH
  have r2 := hRH (H + 1) (by omega)
  have r3 := hRH (H + 2) (by omega)
  have hP := hS.part (l := 0) (c := H) (fc := fc) (a := H + 1) (s := H + 2) (cc := 0) (KX := []) (KY := []) (JX := JX) (JY := JY) hD hbL hUb r1 r2 r3 (by omega) (by omega) (fun _ => ⟨rfl, hJX, hX1, hY1, hfc, by omega⟩) (fun t e => by omega)
  obtain ⟨G1, hG1⟩ : ∃ G1, G1 = G.cut 0 b H fc (H + 1) (H + 2) 0 [] [] JX JY := ⟨_, rfl⟩
  rw [← hG1] at hP
  have lt : ∀ t, t ≤ G.D → ∀ x ∈ G.L t, x < w.heap.size := fun t ht x hx => (hI.node t ht x hx).pl.lt
  have hub : u ≠ b := by
    rintro rfl
    have := hS.lev 1 0 u (by omega) (by omega) huL hbL
    omega
  have hbH : b ≠ H := by have := lt _ (by omega) b hbL; omega
  have huH : u ≠ H := by have := lt _ (by omega) u huL; omega
  have hLo : ∀ t, t ≠ 0 → G1.L t = G.L t := fun t ht => by rw [hG1]; exact if_neg ht
  have hLl : G1.L 0 = rep b H (G.L 0) := by rw [hG1]; simp [Gh.cut]
  have hD1 : G1.D = G.D := by rw [hG1]; rfl
  have huL1 : u ∈ G1.L 1 := by rw [hLo _ (by omega)]; exact huL
  have hgR : G1.R g' = none ∨ g' = G1.A u := by
    rcases hg with h | h
    · right; rw [hG1, h]; simp [Gh.cut, huH]
    · left; rw [hG1]
      have : G.R g' = none := hRH g' (by omega)
      have e1 : g' ≠ H := by omega
      have e2 : g' ≠ H + 1 := by omega
      have e3 : g' ≠ H + 2 := by omega
      simp [Gh.cut, e1, e2, e3, this]
  have hM := hP.move u g' c' 0 (by rw [hD1]; omega) huL1 hgR
  have far : ∀ t, t ≤ G.D → ∀ x ∈ G.L t, x ≠ b → x ≠ u → (∀ j, ¬ XL (G.A b) at' b u (G.A u) sl JY x j) ∧ (∀ j, ¬ XL (G.A b) at' b u (G.A u) sl JY (G.A x) j) ∧ (t = 0 → ∀ j, ¬ XL (G.A b) at' b u (G.A u) sl JY (G.S x) j) := by
    intro t ht x hx hxb hxu
    obtain ⟨o1, o2, o3⟩ := hS.own t ht x hx
    obtain ⟨p1, p2, _⟩ := hS.own 0 (by omega) b hbL
    obtain ⟨q1, q2, _⟩ := hS.own 1 (by omega) u huL
    have a1 := hS.apart (by omega) ht hbL hx hxb
    have a2 := hS.apart (by omega) ht huL hx hxu
    refine ⟨fun j e => ?_, fun j e => ?_, fun e0 j e => ?_⟩
    · rcases e with e | e | e | e | e
      · exact a1.2.2 e.1
      · exact hxb e.1
      · rw [hJR _ e.1] at o1; cases o1
      · exact a2.2.2 e
      · exact hxu e.1
    · rcases e with e | e | e | e | e
      · exact a1.2.1 e.1
      · exact a1.1 e.1
      · rw [hJR _ e.1] at o2; cases o2
      · exact a2.2.1 e
      · exact a2.1 e.1
    · have o3' := o3 e0
      rcases e with e | e | e | e | e
      · rw [e.1, p2] at o3'; injection o3' with e2; injection e2 with e3 e4; cases e4
      · rw [e.1, p1] at o3'; injection o3' with e2; injection e2 with e3 e4; cases e4
      · rw [hJR _ e.1] at o3'; cases o3'
      · rw [e, q2] at o3'; injection o3' with e2; injection e2 with e3 e4; cases e4
      · rw [e.1, q1] at o3'; injection o3' with e2; injection e2 with e3 e4; cases e4
  have hUx : ∀ x, x ≠ H → (G1.moved u g' c').U x = G.U x := fun x hx => by show G1.U x = _; rw [hG1]; simp [Gh.cut, hx]
  have hFx : ∀ x, x ≠ H → (G1.moved u g' c').F x = G.F x := fun x hx => by show G1.F x = _; rw [hG1]; simp [Gh.cut, hx]
  have hAx : ∀ x, x ≠ H → x ≠ u → (G1.moved u g' c').A x = G.A x := fun x hx hxu => by show (if x = u then g' else G1.A x) = _; rw [if_neg hxu, hG1]; simp [Gh.cut, hx]
  have hCx : ∀ x, x ≠ H → x ≠ u → (G1.moved u g' c').C x = G.C x := fun x hx hxu => by show (if x = u then c' else G1.C x) = _; rw [if_neg hxu, hG1]; simp [Gh.cut, hx]
  have hSx : ∀ x, x ≠ H → (G1.moved u g' c').S x = G.S x := fun x hx => by show G1.S x = _; rw [hG1]; simp [Gh.cut, hx]
  refine ⟨G1.moved u g' c', hD1, ⟨hM, fun x hx => ?_, fun t ht x hx => ?_, fun x hx => ?_⟩, ?_, fun x hx => ?_, huL1, ?_⟩
  · have hx' : x ∈ G1.L 0 := hx
    rw [hLl, mem_rep] at hx'
    by_cases hxH : x = H
    · subst hxH
      have e1 : (G1.moved u g' c').U x = G.U b := by show G1.U x = _; rw [hG1]; simp [Gh.cut]
      have e2 : (G1.moved u g' c').F x = fc := by show G1.F x = _; rw [hG1]; simp [Gh.cut]
      have e3 : (G1.moved u g' c').A x = x + 1 := by show (if x = u then g' else G1.A x) = _; rw [if_neg huH.symm, hG1]; simp [Gh.cut]
      have e4 : (G1.moved u g' c').S x = x + 2 := by show G1.S x = _; rw [hG1]; simp [Gh.cut]
      have e5 : (G1.moved u g' c').J x = JY := by show G1.J x = _; rw [hG1]; simp [Gh.cut, hbH.symm]
      rw [e1, e2, e3, e4, e5]
      exact hc'
    · have hxL : x ∈ G.L 0 := by rcases hx' with h | h; exact h; exact absurd h.1 hxH
      have hxu : x ≠ u := by rintro rfl; have := hS.lev 0 1 x (by omega) (by omega) hxL huL; omega
      rw [hUx x hxH, hFx x hxH, hAx x hxH hxu, hSx x hxH]
      by_cases hxb : x = b
      · subst hxb
        have e5 : (G1.moved u g' c').J x = JX := by show G1.J x = _; rw [hG1]; simp [Gh.cut]
        rw [e5]; exact hb'
      · have e5 : (G1.moved u g' c').J x = G.J x := by show G1.J x = _; rw [hG1]; simp [Gh.cut, hxb, hxH]
        obtain ⟨f1, f2, f3⟩ := far 0 (by omega) x hxL hxb hxu
        rw [e5]
        exact (hI.leaf x hxL).next hC f1 f2 (f3 rfl)
  · have ht' : t < G.D := by have : t < G1.D := ht; omega
    have hxL : x ∈ G.L (t + 1) := by have hx' : x ∈ G1.L (t + 1) := hx; rwa [hLo _ (by omega)] at hx'
    have hxH : x ≠ H := by have := lt (t + 1) (by omega) x hxL; omega
    have hxb : x ≠ b := by rintro rfl; have := hS.lev (t + 1) 0 x (by omega) (by omega) hxL hbL; omega
    rw [hUx x hxH, hFx x hxH]
    by_cases hxu : x = u
    · subst hxu
      have e3 : (G1.moved x g' c').A x = g' := if_pos rfl
      have e4 : (G1.moved x g' c').C x = c' := if_pos rfl
      have e5 : (G1.moved x g' c').K x = rep b H (G.K x) := by show G1.K x = _; rw [hG1]; simp [Gh.cut, hub, huH]
      rw [e3, e4, e5]
      exact hu'
    · obtain ⟨f1, f2, _⟩ := far (t + 1) (by omega) x hxL hxb hxu
      have e5 : (G1.moved u g' c').K x = G.K x := by
        show G1.K x = _
        have : G1.K x = rep b H (G.K x) := by rw [hG1]; simp [Gh.cut, hxb, hxH]
        rw [this, rep_id]
        intro hbx
        have h1 := hS.up t ht' x hxL b hbx
        rw [hUb] at h1
        exact hxu (Option.some.inj h1).symm
      rw [hAx x hxH hxu, hCx x hxH hxu, e5]
      exact (hI.inner t ht' x hxL).next hC f1 f2
  · have n0 : x ≠ H := by have := hc'.node.pl.lt; omega
    have n1 : x ≠ H + 1 := by have := hc'.ja.lt; omega
    have n3 : x ≠ H + 2 := by obtain ⟨xs, hs, _⟩ := hc'.sa; have := hs.lt; omega
    have n2 : x ≠ g' := by have := hu'.ka.lt; omega
    show (if x = g' then some (u, 1) else G1.R x) = none
    rw [if_neg n2, hG1]
    simp [Gh.cut, n0, n1, n3, hRH x (by have := hC.size; omega)]
  · rw [moved_flat, hG1]
    exact cut_flat hS (by omega) hbL r1 (fun _ => hJX)
  · show (if x = g' then some (u, 1) else G1.R x) = none ↔ _
    have n0 : x ≠ H := by omega
    have n1 : x ≠ H + 1 := by omega
    have n3 : x ≠ H + 2 := by omega
    have e1 : G1.R x = G.R x := by rw [hG1]; simp [Gh.cut, n0, n1, n3]
    by_cases e : x = g'
    · rw [if_pos e]
      rcases hg with h | h
      · obtain ⟨_, q2, _⟩ := hS.own 1 (by omega) u huL
        rw [e, h, q2]
      · omega
    · rw [if_neg e, e1]
  · show G1.K u = _
    rw [hG1]; simp [Gh.cut, hub, huH]
end Go.Proofs.YbulkdxqmGreatFmt
