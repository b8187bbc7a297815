/- LawS6216CWhole: the plain side: the last place of a name among the first m; how many places are the last of their name. No Go in sight. -/
namespace Go.Proofs.Ybulkdxsc

section
variable (S : Nat → ByteArray)
/-- The greatest j < m with S j = s. -/
def lst (s : ByteArray) : Nat → Option Nat
  | 0 => none
  | m + 1 => if S m = s then some m else lst s m
theorem lst_lt (s : ByteArray) : ∀ m j, lst S s m = some j → j < m ∧ S j = s
  | 0, _, h => by cases h
  | m + 1, j, h => by
    unfold lst at h
    by_cases e : S m = s
    · rw [if_pos e] at h; cases h; exact ⟨Nat.lt_succ_self _, e⟩
    · rw [if_neg e] at h; have := lst_lt s m j h; exact ⟨by omega, this.2⟩
theorem lst_none (s : ByteArray) : ∀ m, lst S s m = none → ∀ j, j < m → S j ≠ s
  | 0, _, j, hj => by omega
  | m + 1, h, j, hj => by
    unfold lst at h
    by_cases e : S m = s
    · rw [if_pos e] at h; cases h
    · rw [if_neg e] at h
      by_cases hjm : j = m
      · subst hjm; exact e
      · exact lst_none s m h j (by omega)
theorem lst_some (s : ByteArray) (m : Nat) : ∀ j, j < m → S j = s → ∃ l, lst S s m = some l := by
  intro j hj e
  cases h : lst S s m with
  | some l => exact ⟨l, rfl⟩
  | none => exact absurd e (lst_none S s m h j hj)
theorem lst_max (s : ByteArray) : ∀ m l, lst S s m = some l → ∀ j, l < j → j < m → S j ≠ s
  | 0, _, h, _, _, _ => by cases h
  | m + 1, l, h, j, h1, h2 => by
    unfold lst at h
    by_cases e : S m = s
    · rw [if_pos e] at h; cases h; omega
    · rw [if_neg e] at h
      by_cases hjm : j = m
      · subst hjm; exact e
      · exact lst_max s m l h j h1 (by omega)
/-- It is the one place with nothing of its name behind it. -/
theorem lst_eq (s : ByteArray) (m l : Nat) (hl : l < m) (e : S l = s) (hb : ∀ j, l < j → j < m → S j ≠ s) : lst S s m = some l := by
  obtain ⟨l', h⟩ := lst_some S s m l hl e
  have h1 := lst_lt S s m l' h
  by_cases hlt : l < l'
  · exact absurd h1.2 (hb l' hlt h1.1)
  · by_cases hlt2 : l' < l
    · exact absurd e (lst_max S s m l' h l hlt2 hl)
    · rw [h]; congr 1; omega

/-- How many i < m are the last of their name among the first n. -/
def cnt (n : Nat) : Nat → Nat
  | 0 => 0
  | m + 1 => cnt n m + if lst S (S m) n = some m then 1 else 0
theorem cnt_le (n : Nat) : ∀ m, cnt S n m ≤ m
  | 0 => Nat.le_refl _
  | m + 1 => by
    have := cnt_le n m
    unfold cnt
    split <;> omega
theorem lst_next (k i : Nat) (hi : i < k) : (lst S (S i) (k + 1) = some i) ↔ (S k ≠ S i ∧ lst S (S i) k = some i) := by
  show (if S k = S i then some k else lst S (S i) k) = some i ↔ _
  by_cases e : S k = S i
  · rw [if_pos e]
    constructor
    · intro h; cases h; omega
    · intro h; exact absurd e h.1
  · rw [if_neg e]; exact ⟨fun h => ⟨e, h⟩, fun h => h.2⟩
theorem cnt_absent (k : Nat) (h : lst S (S k) k = none) : ∀ m, m ≤ k → cnt S (k + 1) m = cnt S k m
  | 0, _ => rfl
  | m + 1, hm => by
    unfold cnt
    rw [cnt_absent k h m (by omega)]
    have hne : S k ≠ S m := fun e => lst_none S (S k) k h m (by omega) e.symm
    have : (lst S (S m) (k + 1) = some m) ↔ (lst S (S m) k = some m) := by rw [lst_next S k m (by omega)]; exact ⟨fun h => h.2, fun h => ⟨hne, h⟩⟩
    simp [this]
theorem cnt_present (k j : Nat) (h : lst S (S k) k = some j) : ∀ m, m ≤ k → cnt S (k + 1) m + (if j < m then 1 else 0) = cnt S k m
  | 0, _ => by simp [cnt]
  | m + 1, hm => by
    have ih := cnt_present k j h m (by omega)
    have hj := lst_lt S (S k) k j h
    unfold cnt
    by_cases e : S k = S m
    · -- the same name: m is the last among the first k just if m = j
      have h1 : ¬ lst S (S m) (k + 1) = some m := by rw [lst_next S k m (by omega)]; exact fun h => h.1 e
      rw [← e] at *
      by_cases hmj : m = j
      · subst hmj
        have : ¬ m < m := by omega
        simp [h1, h, this] at ih ⊢
        omega
      · have h2 : ¬ lst S (S k) k = some m := by rw [h]; intro e2; cases e2; exact hmj rfl
        by_cases hlt : j < m
        · have : j < m + 1 := by omega
          simp [h1, h2, hlt, this] at ih ⊢; omega
        · have : ¬ j < m + 1 := by omega
          simp [h1, h2, hlt, this] at ih ⊢; omega
    · have h1 : (lst S (S m) (k + 1) = some m) ↔ (lst S (S m) k = some m) := by rw [lst_next S k m (by omega)]; exact ⟨fun h => h.2, fun h => ⟨e, h⟩⟩
      have hmj : m ≠ j := fun e2 => e (by rw [e2]; exact hj.2.symm)
      have : (j < m + 1) ↔ (j < m) := by omega
      simp only [h1, this]
      omega
/-- One name more. -/
theorem cnt_step (k : Nat) : cnt S (k + 1) (k + 1) = if (lst S (S k) k).isSome then cnt S k k else cnt S k k + 1 := by
  have h0 : lst S (S k) (k + 1) = some k := by show (if S k = S k then some k else _) = _; simp
  show cnt S (k + 1) k + (if lst S (S k) (k + 1) = some k then 1 else 0) = _
  rw [if_pos h0]
  cases h : lst S (S k) k with
  | none => rw [cnt_absent S k h k (Nat.le_refl _)]; rfl
  | some j =>
    have hj := lst_lt S (S k) k j h
    have := cnt_present S k j h k (Nat.le_refl _)
    rw [if_pos hj.1] at this
    simp; omega
end
end Go.Proofs.Ybulkdxsc
