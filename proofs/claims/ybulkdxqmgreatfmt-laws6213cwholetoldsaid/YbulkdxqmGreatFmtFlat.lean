/- LawS6213CWhole: pure facts: the widths against the sorted slots; the ids in order. -/
import Derived.Test.YbulkdxqmGreatFmtRows
namespace Go.Proofs.YbulkdxqmGreatFmt
set_option linter.unusedVariables false

/-- Each width as often as it is counted. -/
def flatW (ws : List (Int × Int)) : List Int := ws.flatMap fun p => List.replicate p.2.toNat p.1
theorem flatW_cons (p : Int × Int) (ws : List (Int × Int)) : flatW (p :: ws) = List.replicate p.2.toNat p.1 ++ flatW ws := rfl
theorem flatW_append (a b : List (Int × Int)) : flatW (a ++ b) = flatW a ++ flatW b := by unfold flatW; rw [List.flatMap_append]

/-- The widths count a list. -/
structure Tally (ws : List (Int × Int)) (l : List Int) : Prop where
  cnt : ∀ p ∈ ws, p.2 = (l.count p.1 : Int)
  all : ∀ v ∈ l, ∃ c, (v, c) ∈ ws
theorem Tally.nil : Tally [] [] := ⟨(fun p h => by cases h), (fun v h => by cases h)⟩

theorem count_one (l : List Int) (v : Int) : (l ++ [v]).count v = l.count v + 1 := by rw [List.count_append, List.count_singleton]; simp
theorem count_oth (l : List Int) (v u : Int) (h : v ≠ u) : (l ++ [v]).count u = l.count u := by rw [List.count_append, List.count_singleton]; simp [h]

theorem Tally.step {ws ws' : List (Int × Int)} {l : List Int} {v : Int} (h : Tally ws l) (ha : ws.Pairwise (fun a b => a.1 < b.1))
    (hc : ∃ t, t ≤ ws.length ∧ (∀ i p, i < t → ws[i]? = some p → p.1 < v) ∧ ((∃ c, ws[t]? = some (v, c) ∧ ws' = ws.set t (v, c + 1)) ∨ ((∀ i p, t ≤ i → ws[i]? = some p → v < p.1) ∧ ws' = ws.take t ++ (v, 1) :: ws.drop t))) : Tally ws' (l ++ [v]) := by
  obtain ⟨t, ht, hlo, hc⟩ := hc
  rcases hc with ⟨c, hc, rfl⟩ | ⟨hhi, rfl⟩
  · obtain ⟨htl, hte⟩ := List.getElem?_eq_some_iff.1 hc
    have hcm := List.mem_of_getElem? hc
    have hcc := h.cnt _ hcm
    have dif : ∀ i (hi : i < ws.length), i ≠ t → v ≠ (ws[i]).1 := fun i hi hne => by
      rcases Nat.lt_or_gt_of_ne hne with hlt | hgt
      · have := List.pairwise_iff_getElem.1 ha i t hi htl hlt
        rw [hte] at this; simp at this; omega
      · have := List.pairwise_iff_getElem.1 ha t i htl hi hgt
        rw [hte] at this; simp at this; omega
    refine ⟨fun p hp => ?_, fun u hu => ?_⟩
    · obtain ⟨i, hi, e⟩ := List.getElem_of_mem hp
      rw [List.length_set] at hi
      rw [List.getElem_set] at e
      split at e
      · subst e
        show c + 1 = (((l ++ [v]).count v : Nat) : Int)
        simp only at hcc
        rw [count_one]; omega
      · rename_i hne
        have hd := dif i hi (fun h => hne h.symm)
        rw [e] at hd
        rw [count_oth l v p.1 hd]
        exact h.cnt p (by rw [← e]; exact List.getElem_mem hi)
    · rcases List.mem_append.1 hu with hu | hu
      · obtain ⟨c0, h0⟩ := h.all u hu
        obtain ⟨i, hi, e⟩ := List.getElem_of_mem h0
        by_cases hit : i = t
        · subst hit
          exact ⟨c + 1, by
            have e2 := hte.symm.trans e
            obtain rfl : v = u := by simpa using congrArg Prod.fst e2
            exact List.mem_of_getElem? (i := i) (by rw [List.getElem?_set_self (by omega)])⟩
        · exact ⟨c0, List.mem_of_getElem? (i := i) (by rw [List.getElem?_set_ne (fun h => hit h.symm), List.getElem?_eq_getElem hi, e])⟩
      · obtain rfl : u = v := by simpa using hu
        exact ⟨c + 1, List.mem_of_getElem? (i := t) (by rw [List.getElem?_set_self (by omega)])⟩
  · have dif : ∀ p ∈ ws, v ≠ p.1 := fun p hp => by
      obtain ⟨i, hi, e⟩ := List.getElem_of_mem hp
      have hg : ws[i]? = some p := by rw [List.getElem?_eq_getElem hi, e]
      rcases Nat.lt_or_ge i t with hlt | hge
      · have := hlo i p hlt hg; omega
      · have := hhi i p hge hg; omega
    have hmem : ∀ p, p ∈ ws.take t ++ (v, (1 : Int)) :: ws.drop t ↔ p = (v, 1) ∨ p ∈ ws := fun p => by
      have e : p ∈ ws ↔ p ∈ ws.take t ∨ p ∈ ws.drop t := by rw [← List.mem_append, List.take_append_drop]
      rw [List.mem_append, List.mem_cons, e]
      constructor
      · rintro (h | h | h)
        · exact Or.inr (Or.inl h)
        · exact Or.inl h
        · exact Or.inr (Or.inr h)
      · rintro (h | h | h)
        · exact Or.inr (Or.inl h)
        · exact Or.inl h
        · exact Or.inr (Or.inr h)
    have hv0 : l.count v = 0 := List.count_eq_zero.2 (fun hv => by
      obtain ⟨c0, h0⟩ := h.all v hv
      exact dif _ h0 rfl)
    refine ⟨fun p hp => ?_, fun u hu => ?_⟩
    · rcases (hmem p).1 hp with rfl | hp
      · show (1 : Int) = _
        rw [count_one, hv0]; rfl
      · rw [count_oth l v p.1 (dif p hp)]
        exact h.cnt p hp
    · rcases List.mem_append.1 hu with hu | hu
      · obtain ⟨c0, h0⟩ := h.all u hu
        exact ⟨c0, (hmem _).2 (Or.inr h0)⟩
      · obtain rfl : u = v := by simpa using hu
        exact ⟨1, (hmem _).2 (Or.inl rfl)⟩

theorem flat_none (v : Int) : ∀ ws : List (Int × Int), (∀ p ∈ ws, p.1 ≠ v) → (flatW ws).count v = 0
  | [], _ => rfl
  | p :: ws, h => by
    rw [flatW_cons, List.count_append, flat_none v ws (fun q hq => h q (List.mem_cons_of_mem _ hq)), List.count_replicate]
    simp [h p (List.mem_cons_self ..)]
theorem flat_count (v c : Int) : ∀ ws : List (Int × Int), ws.Pairwise (fun a b => a.1 < b.1) → (v, c) ∈ ws → (flatW ws).count v = c.toNat
  | [], _, h => by cases h
  | p :: ws, ha, h => by
    obtain ⟨h1, h2⟩ := List.pairwise_cons.1 ha
    rw [flatW_cons, List.count_append, List.count_replicate]
    rcases List.mem_cons.1 h with rfl | h
    · rw [flat_none v ws (fun q hq e => by have := h1 q hq; simp only at this; omega)]; simp
    · rw [flat_count v c ws h2 h]
      have := h1 _ h
      simp only at this
      rw [if_neg (by simp; omega)]; omega

theorem flat_perm {ws : List (Int × Int)} {l : List Int} (ha : ws.Pairwise (fun a b => a.1 < b.1)) (h : Tally ws l) : (flatW ws).Perm l := by
  refine List.perm_iff_count.2 fun v => ?_
  by_cases hk : ∃ c, (v, c) ∈ ws
  · obtain ⟨c, hc⟩ := hk
    have := h.cnt _ hc
    simp only at this
    rw [flat_count v c ws ha hc]; omega
  · rw [List.count_eq_zero.2 (fun hv => hk (h.all v hv)), flat_none v ws (fun p hp e => hk ⟨p.2, by rw [← e]; exact hp⟩)]

theorem flat_sorted : ∀ ws : List (Int × Int), ws.Pairwise (fun a b => a.1 < b.1) → (flatW ws).Pairwise (fun a b => a ≤ b)
  | [], _ => List.Pairwise.nil
  | p :: ws, ha => by
    obtain ⟨h1, h2⟩ := List.pairwise_cons.1 ha
    rw [flatW_cons, List.pairwise_append]
    refine ⟨List.pairwise_replicate.2 (Or.inr (Int.le_refl _)), flat_sorted ws h2, fun a hx b hy => ?_⟩
    have e := (List.mem_replicate.1 hx).2
    subst e
    unfold flatW at hy
    obtain ⟨q, hq, hb⟩ := List.mem_flatMap.1 hy
    have e := (List.mem_replicate.1 hb).2
    subst e
    have := h1 q hq
    omega

theorem sort_eq {l m : List Int} (hp : m.Perm l) (hs : m.Pairwise (fun a b => a ≤ b)) : (l.mergeSort fun x y => decide (x ≤ y)) = m := by
  refine List.Perm.eq_of_pairwise (le := fun a b => a ≤ b) (fun a b _ _ h1 h2 => by omega) ?_ hs ((List.mergeSort_perm _ _).trans hp.symm)
  have := List.pairwise_mergeSort (le := fun x y : Int => decide (x ≤ y)) (fun a b c h1 h2 => by simp at *; omega) (fun a b => by simp; omega) l
  simpa using this

theorem slots_sorted {ws : List (Int × Int)} {l : List Int} (ha : ws.Pairwise (fun a b => a.1 < b.1)) (h : Tally ws l) : (l.mergeSort fun x y => decide (x ≤ y)) = flatW ws :=
  sort_eq (flat_perm ha h) (flat_sorted ws ha)
theorem pw_turnF {α : Type} {R S : α → α → Prop} {l : List α} (h : l.Pairwise R) (hRS : ∀ a b, R a b → S a b) : l.Pairwise S := by
  induction h with
  | nil => exact List.Pairwise.nil
  | cons h1 _ ih => exact List.Pairwise.cons (fun x hx => hRS _ _ (h1 x hx)) ih
theorem ids_sorted {xs P : List Nat} {id : Nat → Int} (ha : xs.Pairwise (fun a b => id a < id b)) (hm : ∀ a, a ∈ xs ↔ a ∈ P) (hn : P.Nodup) : ((P.map id).mergeSort fun x y => decide (x ≤ y)) = xs.map id ∧ xs.length = P.length := by
  have hx : xs.Nodup := pw_turnF ha (fun a b h e => by subst e; omega)
  have hp : xs.Perm P := (List.perm_ext_iff_of_nodup hx hn).2 hm
  refine ⟨sort_eq (hp.map id) ?_, hp.length_eq⟩
  rw [List.pairwise_map]
  exact pw_turnF ha (fun a b h => by omega)

/-- Where the k-th width begins. -/
def offW (ws : List (Int × Int)) (k : Nat) : Nat := (flatW (ws.take k)).length
theorem offW_zero (ws : List (Int × Int)) : offW ws 0 = 0 := by simp [offW, flatW]
theorem offW_succ {ws : List (Int × Int)} {k : Nat} {p : Int × Int} (h : ws[k]? = some p) : offW ws (k + 1) = offW ws k + p.2.toNat := by
  obtain ⟨hk, e⟩ := List.getElem?_eq_some_iff.1 h
  unfold offW
  rw [List.take_succ_eq_append_getElem hk, flatW_append, List.length_append, e]
  simp [flatW]
theorem offW_all (ws : List (Int × Int)) : offW ws ws.length = (flatW ws).length := by simp [offW]
theorem flat_at {ws : List (Int × Int)} {k t : Nat} {p : Int × Int} (h : ws[k]? = some p) (h1 : offW ws k ≤ t) (h2 : t < offW ws (k + 1)) : (flatW ws)[t]? = some p.1 := by
  obtain ⟨hk, e⟩ := List.getElem?_eq_some_iff.1 h
  have hs : ws = ws.take k ++ p :: ws.drop (k + 1) := by rw [← e, ← List.drop_eq_getElem_cons hk, List.take_append_drop]
  have ho := offW_succ h
  have hf : flatW ws = flatW (ws.take k) ++ (List.replicate p.2.toNat p.1 ++ flatW (ws.drop (k + 1))) := by
    conv => lhs; rw [hs]
    rw [flatW_append, flatW_cons]
  rw [hf, List.getElem?_append_right (by exact h1), List.getElem?_append_left (by simp; unfold offW at *; omega), List.getElem?_replicate, if_pos (by unfold offW at *; omega)]
theorem offW_le {ws : List (Int × Int)} {k : Nat} (h : k ≤ ws.length) : offW ws k ≤ (flatW ws).length := by
  have : flatW ws = flatW (ws.take k) ++ flatW (ws.drop k) := by rw [← flatW_append, List.take_append_drop]
  rw [this, List.length_append]; unfold offW; omega
end Go.Proofs.YbulkdxqmGreatFmt
