/- LawS6213CWhole: the tree in memory behind a split of the root, an inner block. -/
import Derived.Test.YbulkdxqmGreatFmtCut
namespace Go.Proofs.YbulkdxqmGreatFmt
set_option linter.unusedVariables false
open Go.RowKit

/-- What the split of an inner root turns of the blocks that were there. -/
def XR (A at' b qb : Nat) (KY : List Nat) (x j : Nat) : Prop := (x = A ∧ at' ≤ j) ∨ (x = b ∧ (j = 0 ∨ j = 1 ∨ (4 ≤ j ∧ j ≤ 9))) ∨ (x ∈ KY ∧ j = 0) ∨ x = qb

theorem inv_cut_root {w w' : World} {G : Gh} {l b at' H fc N r qb : Nat} {KX KY : List Nat} (hI : Inv w G (some b) b) (hlD : l + 1 = G.D)
    (hKX : KX ++ KY = G.K b) (hX1 : 0 < KX.length ∧ KX.length ≤ 8) (hY1 : 0 < KY.length ∧ KY.length ≤ 8) (hfc : ∃ k, KY.head? = some k ∧ fc = G.F k) (hH : w.heap.size ≤ H) (hN : H + 2 ≤ N) (hr : H + 2 ≤ r) (hNr : N ≠ r) (hRq : G.R qb = none)
    (hC : Chg (XR (G.A b) at' b qb KY) w w') (hb' : InnerAt w' (some r) (G.F b) (G.A b) (G.C b) KX b) (hc' : InnerAt w' (some r) fc (H + 1) 9 KY H) (hr' : InnerAt w' none (G.F b) N 2 [b, H] r) (hk : ∀ k ∈ KY, w'.cell? ⟨k, 0, none⟩ = some (ptr H)) :
    ∃ G2, Inv w' G2 none r ∧ G2.flat = G.flat ∧ (∀ x, x < w.heap.size → (G2.R x = none ↔ G.R x = none)) := by
  have hS := hI.shape
  have hbL : b ∈ G.L (l + 1) := by rw [hlD, hS.top]; simp
  have hRH : ∀ x, w.heap.size ≤ x → G.R x = none := hI.new
  have lt : ∀ t, t ≤ G.D → ∀ x ∈ G.L t, x < w.heap.size := fun t ht x hx => (hI.node t ht x hx).pl.lt
  have hblt := lt (l + 1) (by omega) b hbL
  have hbH : b ≠ H := by omega
  have hbr : b ≠ r := by omega
  have hG0 := hS.grow r N 2 (hRH r (by omega)) (hRH N (by omega)) hNr
  obtain ⟨G0, e0⟩ : ∃ G0, G0 = G.grown r b N 2 := ⟨_, rfl⟩
  rw [← e0] at hG0
  have D0 : G0.D = G.D + 1 := by rw [e0]; rfl
  have L0 : ∀ t, t ≤ G.D → G0.L t = G.L t := fun t ht => by rw [e0]; simp [Gh.grown]; omega
  have Lt : G0.L (G.D + 1) = [r] := by rw [e0]; simp [Gh.grown]
  have K0 : ∀ x, x ≠ r → G0.K x = G.K x := fun x hx => by rw [e0]; simp [Gh.grown, hx]
  have Kr : G0.K r = [b] := by rw [e0]; simp [Gh.grown]
  have Ub : G0.U b = some r := by rw [e0]; simp [Gh.grown]
  have R0 : ∀ x, x ≠ r → x ≠ N → G0.R x = G.R x := fun x h1 h2 => by rw [e0]; simp [Gh.grown, h1, h2]
  have F0 : ∀ x, x ≠ r → G0.F x = G.F x := fun x hx => by rw [e0]; simp [Gh.grown, hx]
  have J0 : G0.J = G.J := by rw [e0]; rfl
  have hbL0 : b ∈ G0.L (l + 1) := by rw [L0 _ (by omega)]; exact hbL
  have r1 : G0.R H = none := by rw [R0 H (by omega) (by omega)]; exact hRH H hH
  have r2 : G0.R (H + 1) = none := by rw [R0 _ (by omega) (by omega)]; exact hRH _ (by omega)
  have ltk : ∀ k ∈ KY, k ∈ G.L l := fun k hk => hS.kid l (by omega) b k hbL (by rw [← hKX]; exact List.mem_append_right _ hk)
  obtain ⟨kf, hkf1, hkf2⟩ := hfc
  have hkfr : kf ≠ r := by have := lt l (by omega) kf (ltk kf (List.mem_of_mem_head? hkf1)); omega
  have hP := hG0.part (c := H) (fc := fc) (a := H + 1) (s := H + 1) (cc := 9) (KX := KX) (KY := KY) (JX := G0.J b) (JY := []) (by omega) hbL0 Ub r1 r2 r2 (by omega) (by omega) (fun e => by omega) (fun t e => ⟨by rw [K0 b hbr]; exact hKX, hX1, hY1, kf, hkf1, by rw [F0 kf hkfr]; exact hkf2⟩)
  have hrep : rep b H (G0.K r) = [b, H] := by rw [Kr]; simp [rep]
  rw [hrep, if_neg (by simp)] at hP
  obtain ⟨G1, hG1⟩ : ∃ G1, G1 = G0.cut (l + 1) b H fc (H + 1) (H + 1) 9 KX KY (G0.J b) [] := ⟨_, rfl⟩
  rw [← hG1] at hP
  have hLo : ∀ t, t ≠ l + 1 → G1.L t = G0.L t := fun t ht => by rw [hG1]; exact if_neg ht
  have hLl : G1.L (l + 1) = rep b H (G.L (l + 1)) := by rw [hG1, ← L0 _ (by omega)]; exact if_pos rfl
  have far : ∀ t, t ≤ G.D → ∀ x ∈ G.L t, x ≠ b → (∀ j, j ≠ 0 → ¬ XR (G.A b) at' b qb KY x j) ∧ (x ∉ KY → ∀ j, ¬ XR (G.A b) at' b qb KY x j) ∧ (∀ j, ¬ XR (G.A b) at' b qb KY (G.A x) j) ∧ (t = 0 → ∀ j, ¬ XR (G.A b) at' b qb KY (G.S x) j) := by
    intro t ht x hx hxb
    obtain ⟨o1, o2, o3⟩ := hS.own t ht x hx
    obtain ⟨p1, p2, _⟩ := hS.own (l + 1) (by omega) b hbL
    have a1 := hS.apart (by omega) ht hbL hx hxb
    have rk : ∀ y z k, k ∈ KY → G.R y = some z → z.2 ≠ 0 → y ≠ k := fun y z k hk' hy hz e => by
      obtain ⟨s1, _, _⟩ := hS.own l (by omega) k (ltk k hk')
      rw [e, s1] at hy
      injection hy with e2
      rw [← e2] at hz
      exact hz rfl
    refine ⟨fun j hj e => ?_, fun hxk j e => ?_, fun j e => ?_, fun e0 j e => ?_⟩
    · rcases e with e | e | e | e
      · exact a1.2.2 e.1
      · exact hxb e.1
      · exact hj e.2
      · rw [e, hRq] at o1; cases o1
    · rcases e with e | e | e | e
      · exact a1.2.2 e.1
      · exact hxb e.1
      · exact hxk e.1
      · rw [e, hRq] at o1; cases o1
    · rcases e with e | e | e | e
      · exact a1.2.1 e.1
      · exact a1.1 e.1
      · exact rk _ _ _ e.1 o2 (by simp) rfl
      · rw [e, hRq] at o2; cases o2
    · have o3' := o3 e0
      rcases e with e | e | e | e
      · rw [e.1, p2] at o3'; injection o3' with e2; injection e2 with e3 e4; cases e4
      · rw [e.1, p1] at o3'; injection o3' with e2; injection e2 with e3 e4; cases e4
      · exact rk _ _ _ e.1 o3' (by simp) rfl
      · rw [e, hRq] at o3'; cases o3'
  have U0 : ∀ x, x ≠ b → x ≠ r → G0.U x = G.U x := fun x h1 h2 => by rw [e0]; simp [Gh.grown, h1, h2]
  have A0 : ∀ x, x ≠ r → G0.A x = G.A x := fun x hx => by rw [e0]; simp [Gh.grown, hx]
  have C0 : ∀ x, x ≠ r → G0.C x = G.C x := fun x hx => by rw [e0]; simp [Gh.grown, hx]
  have S0' : G0.S = G.S := by rw [e0]; rfl
  have hUx : ∀ x, x ≠ H → G1.U x = if x ∈ KY then some H else G0.U x := fun x hx => by
    rw [hG1]
    by_cases e : x ∈ KY <;> simp [Gh.cut, hx, e]
  have hF1 : ∀ x, x ≠ H → G1.F x = G0.F x := fun x hx => by rw [hG1]; simp [Gh.cut, hx]
  have hA1 : ∀ x, x ≠ H → G1.A x = G0.A x := fun x hx => by rw [hG1]; simp [Gh.cut, hx]
  have hC1 : ∀ x, x ≠ H → G1.C x = G0.C x := fun x hx => by rw [hG1]; simp [Gh.cut, hx]
  have nr : ∀ k ∈ KY, k ≠ r := fun k hk => by have := lt l (by omega) k (ltk k hk); omega
  refine ⟨G1, ⟨hP, fun x hx => ?_, fun t ht x hx => ?_, fun x hx => ?_⟩, ?_, fun x hx => ?_⟩
  · have hx0 : x ∈ G.L 0 := by rw [hLo 0 (by omega), L0 0 (by omega)] at hx; exact hx
    have hxlt := lt 0 (by omega) x hx0
    have hxb : x ≠ b := by rintro rfl; have := hS.lev 0 (l + 1) x (by omega) (by omega) hx0 hbL; omega
    have hxH : x ≠ H := by omega
    have hxr : x ≠ r := by omega
    have e3 : G1.S x = G.S x := by rw [hG1]; simp [Gh.cut, hxH, S0']
    have e4 : G1.J x = G.J x := by rw [hG1]; simp [Gh.cut, hxH, hxb, J0]
    obtain ⟨f1, f2, f3, f4⟩ := far 0 (by omega) x hx0 hxb
    rw [hF1 x hxH, F0 x hxr, hA1 x hxH, A0 x hxr, e3, e4, hUx x hxH]
    by_cases e : x ∈ KY
    · rw [if_pos e]
      exact (hI.leaf x hx0).reup hC f1 f3 (f4 rfl) (hk x e)
    · rw [if_neg e, U0 x hxb hxr]
      exact (hI.leaf x hx0).next hC (f2 e) f3 (f4 rfl)
  · have ht' : t < G.D + 1 := by have h1 : t < G1.D := ht; have h2 : G1.D = G0.D := by rw [hG1]; rfl
                                 omega
    by_cases htD : t = G.D
    · subst htD
      have hxr : x = r := by
        rw [hLo _ (by omega), Lt] at hx
        simpa using hx
      subst hxr
      have n1 : x ∉ KY := fun e => nr x e rfl
      have e5 : G1.K x = [b, H] := by rw [hG1]; simp [Gh.cut, hbr.symm, hrep]; omega
      have e6 : G0.U x = none := by rw [e0]; simp [Gh.grown, hbr.symm]
      have e7 : G0.F x = G.F b := by rw [e0]; simp [Gh.grown]
      have e8 : G0.A x = N := by rw [e0]; simp [Gh.grown]
      have e9 : G0.C x = 2 := by rw [e0]; simp [Gh.grown]
      rw [hUx x (by omega), if_neg n1, hF1 x (by omega), hA1 x (by omega), hC1 x (by omega), e5, e6, e7, e8, e9]
      exact hr'
    · have hx1 : x ∈ G.L (t + 1) ∨ (t = l ∧ x = H) := by
        by_cases e : t = l
        · subst e
          rw [hLl, mem_rep] at hx
          rcases hx with h | h
          · exact Or.inl h
          · exact Or.inr ⟨rfl, h.1⟩
        · rw [hLo _ (by omega), L0 _ (by omega)] at hx
          exact Or.inl hx
      by_cases hxH : x = H
      · subst hxH
        have e1 : G1.U x = some r := by rw [hG1]; simp [Gh.cut, Ub]
        have e2 : G1.F x = fc := by rw [hG1]; simp [Gh.cut]
        have e3 : G1.A x = x + 1 := by rw [hG1]; simp [Gh.cut]
        have e4 : G1.C x = 9 := by rw [hG1]; simp [Gh.cut]
        have e5 : G1.K x = KY := by rw [hG1]; simp [Gh.cut, hbH.symm]
        rw [e1, e2, e3, e4, e5]
        exact hc'
      · have hxL : x ∈ G.L (t + 1) := by rcases hx1 with h | h; exact h; exact absurd h.2 hxH
        have hxlt := lt (t + 1) (by omega) x hxL
        have hxr : x ≠ r := by omega
        rw [hUx x hxH, hF1 x hxH, F0 x hxr, hA1 x hxH, A0 x hxr, hC1 x hxH, C0 x hxr]
        by_cases hxb : x = b
        · subst hxb
          have n1 : x ∉ KY := fun e => by have := hS.lev l (l + 1) x (by omega) (by omega) (ltk x e) hbL; omega
          have e5 : G1.K x = KX := by rw [hG1]; simp [Gh.cut]
          rw [if_neg n1, Ub, e5]
          exact hb'
        · obtain ⟨f1, f2, f3, _⟩ := far (t + 1) (by omega) x hxL hxb
          have e5 : G1.K x = G.K x := by
            have : G1.K x = rep b H (G0.K x) := by rw [hG1]; simp [Gh.cut, hxb, hxH]
            rw [this, K0 x hxr, rep_id]
            intro hbx
            have h1 := hS.up t (by omega) x hxL b hbx
            rw [hS.upr] at h1
            cases h1
          rw [e5]
          by_cases e : x ∈ KY
          · rw [if_pos e]
            exact (hI.inner t (by omega) x hxL).reup hC f1 f3 (hk x e)
          · rw [if_neg e, U0 x hxb hxr]
            exact (hI.inner t (by omega) x hxL).next hC (f2 e) f3
  · have n0 : x ≠ H := by have := hc'.node.pl.lt; omega
    have n1 : x ≠ H + 1 := by have := hc'.ka.lt; omega
    have n2 : x ≠ r := by have := hr'.node.pl.lt; omega
    have n3 : x ≠ N := by have := hr'.ka.lt; omega
    rw [hG1]
    simp [Gh.cut, n0, n1, R0 x n2 n3, hRH x (by have := hC.size; omega)]
  · rw [hG1, cut_flat hG0 (by omega) hbL0 r1 (fun e => by omega), e0, grown_flat]
  · have n0 : x ≠ H := by omega
    have n1 : x ≠ H + 1 := by omega
    have e1 : G1.R x = G.R x := by rw [hG1]; simp [Gh.cut, n0, n1, R0 x (by omega) (by omega)]
    rw [e1]
end Go.Proofs.YbulkdxqmGreatFmt
