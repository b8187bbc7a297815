/- LawS6216APart: the plain side: a list of entries (node, block, holding), no key twice; what 'put' makes of it. No Go in sight. -/
namespace Go.Proofs.Ybulkdxsc
abbrev Ent := Int × Int × Int
def keyE (e : Ent) : Int × Int := (e.1, e.2.1)
def keysOf (L : List Ent) : List (Int × Int) := L.map keyE
/-- The holding under a key. -/
def look (L : List Ent) (n b : Int) : Option Int := (L.find? fun e => keyE e == (n, b)).map (·.2.2)
/-- How many keys a node has. -/
def cntN (L : List Ent) (i : Int) : Nat := (keysOf L).countP fun k => k.1 == i
/-- L' is L with v under (n, b): the last write wins. -/
def Put (L : List Ent) (n b v : Int) (L' : List Ent) : Prop :=
  (∃ i, i < L.length ∧ (keysOf L)[i]? = some (n, b) ∧ L' = L.set i (n, b, v)) ∨ ((n, b) ∉ keysOf L ∧ L' = L ++ [(n, b, v)])

theorem look_none (L : List Ent) (n b : Int) : look L n b = none ↔ (n, b) ∉ keysOf L := by
  unfold look keysOf
  simp only [Option.map_eq_none_iff, List.find?_eq_none, beq_iff_eq, List.mem_map, not_exists, not_and]
theorem look_at (L : List Ent) (hn : (keysOf L).Nodup) (t : Nat) (e : Ent) (h : L[t]? = some e) : look L e.1 e.2.1 = some e.2.2 := by
  induction L generalizing t with
  | nil => simp at h
  | cons x r ih =>
    unfold keysOf at hn
    rw [List.map_cons, List.nodup_cons] at hn
    unfold look
    rw [List.find?_cons]
    cases t with
    | zero =>
      simp at h
      subst h
      simp [keyE]
    | succ t =>
      simp at h
      have hm : e ∈ r := List.mem_of_getElem? h
      have hne : keyE x ≠ (e.1, e.2.1) := fun e2 => hn.1 (List.mem_map.2 ⟨e, hm, e2.symm⟩)
      rw [beq_eq_false_iff_ne.2 hne]
      exact ih hn.2 t h
theorem look_key (L : List Ent) (hn : (keysOf L).Nodup) (t : Nat) (n b : Int) (h : (keysOf L)[t]? = some (n, b)) : ∃ v, L[t]? = some (n, b, v) ∧ look L n b = some v := by
  unfold keysOf at h
  rw [List.getElem?_map, Option.map_eq_some_iff] at h
  obtain ⟨⟨n', b', v⟩, h1, h2⟩ := h
  simp [keyE] at h2
  obtain ⟨rfl, rfl⟩ := h2
  exact ⟨v, h1, look_at L hn t _ h1⟩

theorem keysOf_set (L : List Ent) (i : Nat) (n b v : Int) (h : (keysOf L)[i]? = some (n, b)) : keysOf (L.set i (n, b, v)) = keysOf L := by
  unfold keysOf at h ⊢
  rw [List.map_set]
  apply List.ext_getElem?
  intro j
  rw [List.getElem?_set]
  by_cases e : i = j
  · subst e
    rw [if_pos rfl, h]
    have : i < (L.map keyE).length := (List.getElem?_eq_some_iff.1 h).1
    rw [if_pos this]; rfl
  · rw [if_neg e]

theorem Put.nodup {L L' : List Ent} {n b v : Int} (h : Put L n b v L') (hn : (keysOf L).Nodup) : (keysOf L').Nodup := by
  rcases h with ⟨i, hi, hk, rfl⟩ | ⟨hm, rfl⟩
  · rw [keysOf_set L i n b v hk]; exact hn
  · unfold keysOf at *
    rw [List.map_append, List.nodup_append]
    refine ⟨hn, by simp, ?_⟩
    intro a ha c hc
    simp at hc
    subst hc
    intro e
    have e2 : a = (n, b) := e
    rw [e2] at ha
    exact hm ha
theorem Put.length {L L' : List Ent} {n b v : Int} (h : Put L n b v L') : L'.length ≤ L.length + 1 := by
  rcases h with ⟨i, hi, hk, rfl⟩ | ⟨hm, rfl⟩ <;> simp
theorem Put.mem {L L' : List Ent} {n b v : Int} (h : Put L n b v L') : ∀ e ∈ L', e ∈ L ∨ e = (n, b, v) := by
  intro e he
  rcases h with ⟨i, hi, hk, rfl⟩ | ⟨hm, rfl⟩
  · exact (List.mem_or_eq_of_mem_set he)
  · simpa using he
theorem Put.cnt {L L' : List Ent} {n b v : Int} (h : Put L n b v L') (i : Int) : cntN L' i = if i = n ∧ look L n b = none then cntN L i + 1 else cntN L i := by
  rcases h with ⟨j, hj, hk, rfl⟩ | ⟨hm, rfl⟩
  · have : ¬ look L n b = none := by rw [look_none]; exact fun h => h (List.mem_of_getElem? hk)
    rw [if_neg (fun h => this h.2)]
    unfold cntN
    rw [keysOf_set L j n b v hk]
  · have hl : look L n b = none := (look_none L n b).2 hm
    unfold cntN keysOf
    rw [List.map_append, List.countP_append]
    by_cases e : i = n
    · subst e; simp [hl, keyE]
    · have : ¬ n = i := fun h => e h.symm
      simp [e, keyE, this]
theorem Put.look {L L' : List Ent} {n b v : Int} (h : Put L n b v L') (hn : (keysOf L).Nodup) (n' b' : Int) : look L' n' b' = if n' = n ∧ b' = b then some v else look L n' b' := by
  have hn' := h.nodup hn
  by_cases e : n' = n ∧ b' = b
  · obtain ⟨rfl, rfl⟩ := e
    rw [if_pos ⟨rfl, rfl⟩]
    rcases h with ⟨i, hi, hk, rfl⟩ | ⟨hm, rfl⟩
    · exact look_at _ hn' i (n', b', v) (by rw [List.getElem?_set_self hi])
    · exact look_at _ hn' L.length (n', b', v) (by simp)
  · rw [if_neg e]
    have hne : ¬ (n, b) = (n', b') := fun h => e ⟨(congrArg Prod.fst h).symm, (congrArg Prod.snd h).symm⟩
    rcases h with ⟨i, hi, hk, rfl⟩ | ⟨hm, rfl⟩
    · -- the same entry is found
      cases hl : Ybulkdxsc.look L n' b' with
      | none =>
        rw [look_none, keysOf_set L i n b v hk, ← look_none]; exact hl
      | some u =>
        unfold Ybulkdxsc.look at hl
        rw [Option.map_eq_some_iff] at hl
        obtain ⟨x, hx, rfl⟩ := hl
        have hxk : keyE x = (n', b') := by simpa using List.find?_some hx
        have hxm := List.mem_of_find?_eq_some hx
        obtain ⟨t, ht⟩ := List.getElem?_of_mem hxm
        have hti : i ≠ t := fun e2 => by
          subst e2
          unfold keysOf at hk
          rw [List.getElem?_map, ht] at hk
          simp at hk
          exact hne (hk.symm.trans hxk)
        have := look_at _ hn' t x (by rw [List.getElem?_set_ne hti]; exact ht)
        obtain ⟨xn, xb, xv⟩ := x
        simp [keyE] at hxk
        obtain ⟨rfl, rfl⟩ := hxk
        exact this
    · unfold Ybulkdxsc.look
      rw [List.find?_append]
      cases hl : L.find? (fun e => keyE e == (n', b')) with
      | some x => simp
      | none => simp [keyE, hne]
end Go.Proofs.Ybulkdxsc
