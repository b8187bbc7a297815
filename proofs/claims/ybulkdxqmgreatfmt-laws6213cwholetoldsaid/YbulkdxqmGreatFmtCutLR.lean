/- LawS6213CWhole: the tree in memory behind a split of a leaf that is the root. -/
import Derived.Test.YbulkdxqmGreatFmtCut
namespace Go.Proofs.YbulkdxqmGreatFmt
set_option linter.unusedVariables false
open Go.RowKit

theorem inv_cut_leaf_root {w w' : World} {G : Gh} {b H fc N r : Nat} {JX JY : List Nat} (hI : Inv w G (some b) b) (hD : G.D = 0)
    (hJX : JX ++ JY = G.J b) (hX1 : 0 < JX.length ∧ JX.length ≤ 16) (hY1 : 0 < JY.length ∧ JY.length ≤ 16) (hfc : JY.head? = some fc) (hH : w.heap.size ≤ H) (hN : H + 3 ≤ N) (hr : H + 3 ≤ r) (hNr : N ≠ r)
    (hsz : w.heap.size ≤ w'.heap.size) (hb' : LeafAt w' (some r) (G.F b) (G.A b) (G.S b) JX b) (hc' : LeafAt w' (some r) fc (H + 1) (H + 2) JY H) (hr' : InnerAt w' none (G.F b) N 2 [b, H] r) :
    ∃ G2, Inv w' G2 none r ∧ G2.flat = G.flat ∧ (∀ x, x < w.heap.size → (G2.R x = none ↔ G.R x = none)) := by
  have hS := hI.shape
  have htop : G.L 0 = [b] := by have := hS.top; rwa [hD] at this
  have hbL : b ∈ G.L 0 := by rw [htop]; simp
  have hRH : ∀ x, w.heap.size ≤ x → G.R x = none := hI.new
  have hblt := (hI.leaf b hbL).node.pl.lt
  have hbH : b ≠ H := by omega
  have hbr : b ≠ r := by omega
  have hHr : H ≠ r := by omega
  have hG0 := hS.grow r N 2 (hRH r (by omega)) (hRH N (by omega)) hNr
  obtain ⟨G0, e0⟩ : ∃ G0, G0 = G.grown r b N 2 := ⟨_, rfl⟩
  rw [← e0] at hG0
  have D0 : G0.D = 1 := by rw [e0]; show G.D + 1 = 1; omega
  have L00 : G0.L 0 = [b] := by rw [e0]; simp [Gh.grown, htop]
  have L01 : G0.L 1 = [r] := by rw [e0]; simp [Gh.grown, hD]
  have Kr : G0.K r = [b] := by rw [e0]; simp [Gh.grown]
  have Ub : G0.U b = some r := by rw [e0]; simp [Gh.grown]
  have R0 : ∀ x, x ≠ r → x ≠ N → G0.R x = G.R x := fun x h1 h2 => by rw [e0]; simp [Gh.grown, h1, h2]
  have F0 : G0.F b = G.F b := by rw [e0]; simp [Gh.grown, hbr]
  have A0 : G0.A b = G.A b := by rw [e0]; simp [Gh.grown, hbr]
  have S0' : G0.S = G.S := by rw [e0]; rfl
  have J0 : G0.J = G.J := by rw [e0]; rfl
  have hbL0 : b ∈ G0.L 0 := by rw [L00]; simp
  have r1 : G0.R H = none := by rw [R0 H (by omega) (by omega)]; exact hRH H hH
  have r2 : G0.R (H + 1) = none := by rw [R0 _ (by omega) (by omega)]; exact hRH _ (by omega)
  have r3 : G0.R (H + 2) = none := by rw [R0 _ (by omega) (by omega)]; exact hRH _ (by omega)
  have hP := hG0.part (l := 0) (c := H) (fc := fc) (a := H + 1) (s := H + 2) (cc := 0) (KX := []) (KY := []) (JX := JX) (JY := JY) (by omega) hbL0 Ub r1 r2 r3 (by omega) (by omega) (fun _ => ⟨rfl, by rw [J0]; exact hJX, hX1, hY1, hfc, by omega⟩) (fun t e => by omega)
  have hrep : rep b H (G0.K r) = [b, H] := by rw [Kr]; simp [rep]
  rw [hrep, if_neg (by simp)] at hP
  obtain ⟨G1, hG1⟩ : ∃ G1, G1 = G0.cut 0 b H fc (H + 1) (H + 2) 0 [] [] JX JY := ⟨_, rfl⟩
  rw [← hG1] at hP
  have hL0 : G1.L 0 = [b, H] := by rw [hG1]; simp [Gh.cut, L00, rep]
  have hL1 : G1.L 1 = [r] := by rw [hG1]; simp [Gh.cut, L01]
  refine ⟨G1, ⟨hP, fun x hx => ?_, fun t ht x hx => ?_, fun x hx => ?_⟩, ?_, fun x hx => ?_⟩
  · rw [hL0] at hx
    simp at hx
    rcases hx with rfl | rfl
    · have e1 : G1.U x = some r := by rw [hG1]; simp [Gh.cut, hbH, Ub]
      have e2 : G1.F x = G.F x := by rw [hG1]; simp [Gh.cut, hbH, F0]
      have e3 : G1.A x = G.A x := by rw [hG1]; simp [Gh.cut, hbH, A0]
      have e4 : G1.S x = G.S x := by rw [hG1]; simp [Gh.cut, hbH, S0']
      have e5 : G1.J x = JX := by rw [hG1]; simp [Gh.cut]
      rw [e1, e2, e3, e4, e5]; exact hb'
    · have e1 : G1.U x = some r := by rw [hG1]; simp [Gh.cut, Ub]
      have e2 : G1.F x = fc := by rw [hG1]; simp [Gh.cut]
      have e3 : G1.A x = x + 1 := by rw [hG1]; simp [Gh.cut]
      have e4 : G1.S x = x + 2 := by rw [hG1]; simp [Gh.cut]
      have e5 : G1.J x = JY := by rw [hG1]; simp [Gh.cut, hbH.symm]
      rw [e1, e2, e3, e4, e5]; exact hc'
  · have ht0 : t = 0 := by have h1 : t < G1.D := ht; have h2 : G1.D = G0.D := by rw [hG1]; rfl
                           omega
    subst ht0
    rw [hL1] at hx
    obtain rfl : x = r := by simpa using hx
    have e1 : G1.U x = none := by rw [hG1, e0]; simp [Gh.cut, Gh.grown, hHr.symm, hbr.symm]
    have e2 : G1.F x = G.F b := by rw [hG1, e0]; simp [Gh.cut, Gh.grown, hHr.symm]
    have e3 : G1.A x = N := by rw [hG1, e0]; simp [Gh.cut, Gh.grown, hHr.symm]
    have e4 : G1.C x = 2 := by rw [hG1, e0]; simp [Gh.cut, Gh.grown, hHr.symm]
    have e5 : G1.K x = [b, H] := by rw [hG1]; simp [Gh.cut, hHr.symm, hbr.symm, hrep]
    rw [e1, e2, e3, e4, e5]; exact hr'
  · have n0 : x ≠ H := by have := hc'.node.pl.lt; omega
    have n1 : x ≠ H + 1 := by have := hc'.ja.lt; omega
    have n4 : x ≠ H + 2 := by obtain ⟨xs, hs, _⟩ := hc'.sa; have := hs.lt; omega
    have n2 : x ≠ r := by have := hr'.node.pl.lt; omega
    have n3 : x ≠ N := by have := hr'.ka.lt; omega
    rw [hG1]
    simp [Gh.cut, n0, n1, n4, R0 x n2 n3, hRH x (by omega)]
  · rw [hG1, cut_flat hG0 (by omega) hbL0 r1 (fun _ => by rw [J0]; exact hJX), e0, grown_flat]
  · have e1 : G1.R x = G.R x := by
      have n0 : x ≠ H := by omega
      have n1 : x ≠ H + 1 := by omega
      have n4 : x ≠ H + 2 := by omega
      rw [hG1]; simp [Gh.cut, n0, n1, n4, R0 x (by omega) (by omega)]
    rw [e1]
end Go.Proofs.YbulkdxqmGreatFmt
