/- LawS6213CWhole: the tree in memory behind a split of an inner block that has a block above it. -/
import Derived.Test.YbulkdxqmGreatFmtInsA
namespace Go.Proofs.YbulkdxqmGreatFmt
set_option linter.unusedVariables false
open Go.RowKit

theorem NodeAt.reup {w w' : World} {X : Nat → Nat → Prop} {U U' : Option Nat} {F b : Nat} (h : NodeAt w U F b) (hc : Chg X w w') (hn : ∀ j, j ≠ 0 → ¬ X b j) (h0 : w'.cell? ⟨b, 0, none⟩ = some (upv U')) : NodeAt w' U' F b :=
  ⟨hc.pln _ _ h.pl, h0, hc.keep h.c4 (hn _ (by omega)), hc.sp h.sp (fun j h1 _ => hn j (by omega)), by obtain ⟨x, hx⟩ := h.c9; exact ⟨x, hc.keep hx (hn _ (by omega))⟩, hc.keep h.c23 (hn _ (by omega))⟩
theorem LeafAt.reup {w w' : World} {X : Nat → Nat → Prop} {U U' : Option Nat} {F A S b : Nat} {J : List Nat} (h : LeafAt w U F A S J b) (hc : Chg X w w') (hb : ∀ j, j ≠ 0 → ¬ X b j) (hA : ∀ j, ¬ X A j) (hS : ∀ j, ¬ X S j) (h0 : w'.cell? ⟨b, 0, none⟩ = some (upv U')) : LeafAt w' U' F A S J b :=
  ⟨h.node.reup hc hb h0, hc.keep h.c1 (hb _ (by omega)), hc.keep h.c2 (hb _ (by omega)), hc.keep h.c3 (hb _ (by omega)), h.ja.next hc hA, by obtain ⟨xs, h1, h2⟩ := h.sa; exact ⟨xs, h1.next hc hS, h2⟩⟩
theorem InnerAt.reup {w w' : World} {X : Nat → Nat → Prop} {U U' : Option Nat} {F A C b : Nat} {K : List Nat} (h : InnerAt w U F A C K b) (hc : Chg X w w') (hb : ∀ j, j ≠ 0 → ¬ X b j) (hA : ∀ j, ¬ X A j) (h0 : w'.cell? ⟨b, 0, none⟩ = some (upv U')) : InnerAt w' U' F A C K b :=
  ⟨h.node.reup hc hb h0, hc.keep h.c1 (hb _ (by omega)), h.ka.next hc hA⟩

/-- What the split of an inner block turns of the blocks that were there. -/
def XI (A at' b u Au : Nat) (KY : List Nat) (x j : Nat) : Prop := (x = A ∧ at' ≤ j) ∨ (x = b ∧ (j = 1 ∨ (4 ≤ j ∧ j ≤ 9))) ∨ (x ∈ KY ∧ j = 0) ∨ x = Au ∨ (x = u ∧ j = 1)

theorem inv_cut_inner {w w' : World} {G : Gh} {root l b u at' H fc g' c' : Nat} {KX KY : List Nat} (hI : Inv w G (some b) root) (hl2 : l + 1 < G.D) (hbL : b ∈ G.L (l + 1)) (hUb : G.U b = some u) (huL : u ∈ G.L (l + 2)) (hbu : b ∈ G.K u)
    (hKX : KX ++ KY = G.K b) (hX1 : 0 < KX.length ∧ KX.length ≤ 8) (hY1 : 0 < KY.length ∧ KY.length ≤ 8) (hfc : ∃ k, KY.head? = some k ∧ fc = G.F k) (hH : w.heap.size ≤ H) (hg : g' = G.A u ∨ H + 2 ≤ g')
    (hC : Chg (XI (G.A b) at' b u (G.A u) KY) w w') (hb' : InnerAt w' (G.U b) (G.F b) (G.A b) (G.C b) KX b) (hc' : InnerAt w' (G.U b) fc (H + 1) 9 KY H) (hu' : InnerAt w' (G.U u) (G.F u) g' c' (rep b H (G.K u)) u) (hk : ∀ k ∈ KY, w'.cell? ⟨k, 0, none⟩ = some (ptr H)) :
    ∃ G2, G2.D = G.D ∧ Inv w' G2 (if (rep b H (G.K u)).length = 9 then some u else none) root ∧ G2.flat = G.flat ∧ (∀ x, x < w.heap.size → (G2.R x = none ↔ G.R x = none)) ∧ u ∈ G2.L (l + 2) ∧ G2.K u = rep b H (G.K u) := by
  have hS := hI.shape
  have hRH : ∀ x, w.heap.size ≤ x → G.R x = none := hI.new
  have r1 := hRH H hH
  have r2 := hRH (H + 1) (by omega)
  have hP := hS.part (c := H) (fc := fc) (a := H + 1) (s := H + 1) (cc := 9) (JX := G.J b) (JY := []) (by omega) hbL hUb r1 r2 r2 (by omega) (by omega) (fun e => by omega) (fun t e => ⟨hKX, hX1, hY1, hfc⟩)
  obtain ⟨G1, hG1⟩ : ∃ G1, G1 = G.cut (l + 1) b H fc (H + 1) (H + 1) 9 KX KY (G.J b) [] := ⟨_, rfl⟩
  rw [← hG1] at hP
  have lt : ∀ t, t ≤ G.D → ∀ x ∈ G.L t, x < w.heap.size := fun t ht x hx => (hI.node t ht x hx).pl.lt
  have ltR : ∀ x y, G.R x = some y → x < w.heap.size := fun x y hx => by
    rcases Nat.lt_or_ge x w.heap.size with h | h
    · exact h
    · rw [hRH x h] at hx; cases hx
  have hub : u ≠ b := by
    rintro rfl
    have := hS.lev (l + 2) (l + 1) u (by omega) (by omega) huL hbL
    omega
  have hbH : b ≠ H := by have := lt _ (by omega) b hbL; omega
  have huH : u ≠ H := by have := lt _ (by omega) u huL; omega
  have hKYL : ∀ k ∈ KY, k ∈ G.L l := fun k hk => hS.kid l (by omega) b k hbL (by rw [← hKX]; exact List.mem_append_right _ hk)
  -- the level lists
  have hLo : ∀ t, t ≠ l + 1 → G1.L t = G.L t := fun t ht => by rw [hG1]; exact if_neg ht
  have hLl : G1.L (l + 1) = rep b H (G.L (l + 1)) := by rw [hG1]; exact if_pos rfl
  have hD : G1.D = G.D := by rw [hG1]; rfl
  have huL1 : u ∈ G1.L (l + 2) := by rw [hLo _ (by omega)]; exact huL
  have hgR : G1.R g' = none ∨ g' = G1.A u := by
    rcases hg with h | h
    · right; rw [hG1, h]; simp [Gh.cut, huH]
    · left; rw [hG1]
      have : G.R g' = none := hRH g' (by omega)
      have e1 : g' ≠ H := by omega
      have e2 : g' ≠ H + 1 := by omega
      simp [Gh.cut, e1, e2, this]
  have hM := hP.move u g' c' (l + 1) (by rw [hD]; omega) huL1 hgR
  -- what is not touched
  have far : ∀ t, t ≤ G.D → ∀ x ∈ G.L t, x ≠ b → x ≠ u → (∀ j, j ≠ 0 → ¬ XI (G.A b) at' b u (G.A u) KY x j) ∧ (x ∉ KY → ∀ j, ¬ XI (G.A b) at' b u (G.A u) KY x j) ∧ (∀ j, ¬ XI (G.A b) at' b u (G.A u) KY (G.A x) j) ∧ (t = 0 → ∀ j, ¬ XI (G.A b) at' b u (G.A u) KY (G.S x) j) := by
    intro t ht x hx hxb hxu
    obtain ⟨o1, o2, o3⟩ := hS.own t ht x hx
    obtain ⟨p1, p2, _⟩ := hS.own (l + 1) (by omega) b hbL
    obtain ⟨q1, q2, _⟩ := hS.own (l + 2) (by omega) u huL
    have a1 := hS.apart (by omega) ht hbL hx hxb
    have a2 := hS.apart (by omega) ht huL hx hxu
    have rk : ∀ y z k, k ∈ KY → G.R y = some z → z.2 ≠ 0 → y ≠ k := fun y z k hk' hy hz e => by
      obtain ⟨s1, _, _⟩ := hS.own l (by omega) k (hKYL k hk')
      rw [e, s1] at hy
      injection hy with e2
      rw [← e2] at hz
      exact hz rfl
    refine ⟨fun j hj e => ?_, fun hxk j e => ?_, fun j e => ?_, fun e0 j e => ?_⟩
    · rcases e with e | e | e | e | e
      · exact a1.2.2 e.1
      · exact hxb e.1
      · exact hj e.2
      · exact a2.2.2 e
      · exact hxu e.1
    · rcases e with e | e | e | e | e
      · exact a1.2.2 e.1
      · exact hxb e.1
      · exact hxk e.1
      · exact a2.2.2 e
      · exact hxu e.1
    · rcases e with e | e | e | e | e
      · exact a1.2.1 e.1
      · exact a1.1 e.1
      · exact rk _ _ _ e.1 o2 (by simp) rfl
      · exact a2.2.1 e
      · exact a2.1 e.1
    · have o3' := o3 e0
      rcases e with e | e | e | e | e
      · rw [e.1, p2] at o3'; injection o3' with e2; injection e2 with e3 e4; cases e4
      · rw [e.1, p1] at o3'; injection o3' with e2; injection e2 with e3 e4; cases e4
      · exact rk _ _ _ e.1 o3' (by simp) rfl
      · rw [e, q2] at o3'; injection o3' with e2; injection e2 with e3 e4; cases e4
      · rw [e.1, q1] at o3'; injection o3' with e2; injection e2 with e3 e4; cases e4
  have hUx : ∀ x, x ≠ H → (G1.moved u g' c').U x = if x ∈ KY then some H else G.U x := fun x hx => by
    show G1.U x = _
    rw [hG1]
    by_cases e : x ∈ KY <;> simp [Gh.cut, hx, e]
  refine ⟨G1.moved u g' c', hD, ⟨hM, fun x hx => ?_, fun t ht x hx => ?_, fun x hx => ?_⟩, ?_, fun x hx => ?_, huL1, ?_⟩
  · have hx0 : x ∈ G.L 0 := by have : x ∈ G1.L 0 := hx; rwa [hLo 0 (by omega)] at this
    have hxb : x ≠ b := by rintro rfl; have := hS.lev 0 (l + 1) x (by omega) (by omega) hx0 hbL; omega
    have hxu : x ≠ u := by rintro rfl; have := hS.lev 0 (l + 2) x (by omega) (by omega) hx0 huL; omega
    have hxH : x ≠ H := by have := lt 0 (by omega) x hx0; omega
    have e1 : (G1.moved u g' c').F x = G.F x := by show G1.F x = _; rw [hG1]; simp [Gh.cut, hxH]
    have e2 : (G1.moved u g' c').A x = G.A x := by show (if x = u then g' else G1.A x) = _; rw [if_neg hxu, hG1]; simp [Gh.cut, hxH]
    have e3 : (G1.moved u g' c').S x = G.S x := by show G1.S x = _; rw [hG1]; simp [Gh.cut, hxH]
    have e4 : (G1.moved u g' c').J x = G.J x := by show G1.J x = _; rw [hG1]; simp [Gh.cut, hxH, hxb]
    obtain ⟨f1, f2, f3, f4⟩ := far 0 (by omega) x hx0 hxb hxu
    rw [e1, e2, e3, e4, hUx x hxH]
    by_cases e : x ∈ KY
    · rw [if_pos e]
      exact (hI.leaf x hx0).reup hC f1 f3 (f4 rfl) (hk x e)
    · rw [if_neg e]
      exact (hI.leaf x hx0).next hC (f2 e) f3 (f4 rfl)
  · have ht' : t < G.D := by have : t < G1.D := ht; omega
    have hx1 : x ∈ G.L (t + 1) ∨ (t = l ∧ x = H) := by
      have hx' : x ∈ G1.L (t + 1) := hx
      by_cases e : t = l
      · subst e
        rw [hLl, mem_rep] at hx'
        rcases hx' with h | h
        · exact Or.inl h
        · exact Or.inr ⟨rfl, h.1⟩
      · rw [hLo _ (by omega)] at hx'
        exact Or.inl hx'
    by_cases hxH : x = H
    · subst hxH
      have e1 : (G1.moved u g' c').U x = G.U b := by show G1.U x = _; rw [hG1]; simp [Gh.cut]
      have e2 : (G1.moved u g' c').F x = fc := by show G1.F x = _; rw [hG1]; simp [Gh.cut]
      have e3 : (G1.moved u g' c').A x = x + 1 := by show (if x = u then g' else G1.A x) = _; rw [if_neg huH.symm, hG1]; simp [Gh.cut]
      have e4 : (G1.moved u g' c').C x = 9 := by show (if x = u then c' else G1.C x) = _; rw [if_neg huH.symm, hG1]; simp [Gh.cut]
      have e5 : (G1.moved u g' c').K x = KY := by show G1.K x = _; rw [hG1]; simp [Gh.cut, hbH.symm]
      rw [e1, e2, e3, e4, e5]
      exact hc'
    · have hxL : x ∈ G.L (t + 1) := by rcases hx1 with h | h; exact h; exact absurd h.2 hxH
      have e2 : (G1.moved u g' c').F x = G.F x := by show G1.F x = _; rw [hG1]; simp [Gh.cut, hxH]
      by_cases hxb : x = b
      · subst hxb
        have n1 : x ∉ KY := fun e => by have := hS.lev l (l + 1) x (by omega) (by omega) (hKYL x e) hbL; omega
        have e3 : (G1.moved u g' c').A x = G.A x := by show (if x = u then g' else G1.A x) = _; rw [if_neg hub.symm, hG1]; simp [Gh.cut, hxH]
        have e4 : (G1.moved u g' c').C x = G.C x := by show (if x = u then c' else G1.C x) = _; rw [if_neg hub.symm, hG1]; simp [Gh.cut, hxH]
        have e5 : (G1.moved u g' c').K x = KX := by show G1.K x = _; rw [hG1]; simp [Gh.cut]
        rw [hUx x hxH, if_neg n1, e2, e3, e4, e5]
        exact hb'
      · by_cases hxu : x = u
        · subst hxu
          have n1 : x ∉ KY := fun e => by have := hS.lev l (l + 2) x (by omega) (by omega) (hKYL x e) huL; omega
          have e3 : (G1.moved x g' c').A x = g' := if_pos rfl
          have e4 : (G1.moved x g' c').C x = c' := if_pos rfl
          have e5 : (G1.moved x g' c').K x = rep b H (G.K x) := by show G1.K x = _; rw [hG1]; simp [Gh.cut, hub, huH]
          rw [hUx x hxH, if_neg n1, e2, e3, e4, e5]
          exact hu'
        · obtain ⟨f1, f2, f3, _⟩ := far (t + 1) (by omega) x hxL hxb hxu
          have e3 : (G1.moved u g' c').A x = G.A x := by show (if x = u then g' else G1.A x) = _; rw [if_neg hxu, hG1]; simp [Gh.cut, hxH]
          have e4 : (G1.moved u g' c').C x = G.C x := by show (if x = u then c' else G1.C x) = _; rw [if_neg hxu, hG1]; simp [Gh.cut, hxH]
          have e5 : (G1.moved u g' c').K x = G.K x := by
            show G1.K x = _
            have : G1.K x = rep b H (G.K x) := by rw [hG1]; simp [Gh.cut, hxb, hxH]
            rw [this, rep_id]
            intro hbx
            have h1 := hS.up t ht' x hxL b hbx
            rw [hUb] at h1
            exact hxu (Option.some.inj h1).symm
          rw [hUx x hxH, e2, e3, e4, e5]
          by_cases e : x ∈ KY
          · rw [if_pos e]
            exact (hI.inner t ht' x hxL).reup hC f1 f3 (hk x e)
          · rw [if_neg e]
            exact (hI.inner t ht' x hxL).next hC (f2 e) f3
  · have n0 : x ≠ H := by have := hc'.node.pl.lt; omega
    have n1 : x ≠ H + 1 := by have := hc'.ka.lt; omega
    have n2 : x ≠ g' := by have := hu'.ka.lt; omega
    show (if x = g' then some (u, 1) else G1.R x) = none
    rw [if_neg n2, hG1]
    simp [Gh.cut, n0, n1, hRH x (by have := hC.size; omega)]
  · rw [moved_flat, hG1]
    exact cut_flat hS (by omega) hbL r1 (fun e => by omega)
  · show (if x = g' then some (u, 1) else G1.R x) = none ↔ _
    have n0 : x ≠ H := by omega
    have n1 : x ≠ H + 1 := by omega
    have e1 : G1.R x = G.R x := by rw [hG1]; simp [Gh.cut, n0, n1]
    by_cases e : x = g'
    · rw [if_pos e]
      rcases hg with h | h
      · obtain ⟨_, q2, _⟩ := hS.own (l + 2) (by omega) u huL
        rw [e, h, q2]
      · omega
    · rw [if_neg e, e1]
  · show G1.K u = _
    rw [hG1]; simp [Gh.cut, hub, huH]
end Go.Proofs.YbulkdxqmGreatFmt
