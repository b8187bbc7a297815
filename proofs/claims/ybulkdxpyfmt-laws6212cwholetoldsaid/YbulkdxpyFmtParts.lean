/- LawS6212CWhole: what the first loop keeps, outside the walk. -/
import Derived.Test.YbulkdxpyFmtFind
import Derived.Deep.OwnRows
namespace Go.Proofs.YbulkdxpyFmt
open Go.RowKit Go.Maps Go.WideMaps Go.WideElems

def keyS (s : ByteArray) : Lit := .string s.data.toList
def ptrD (p : Nat) : DataW Unit := .lit (.int .i64 p)
abbrev ptrV (p : Nat) : Value := .pointer (some ⟨p, 0, none⟩)
def fileCells (path : ByteArray) (B : Nat) (i : Nat) : Value :=
  if i = 0 then .string path else if i = 1 then .slice none 0 0 else if i = 2 then .map (some B) else .map (some (B + 1))
def sto (k : Nat) (p : Nat → Nat) (i : Nat) : Value := if i < k then ptrV (p i) else .pointer none

theorem isKeyS (s : ByteArray) : WideAt.IsKeyLit (keyS s) := by simp [WideAt.IsKeyLit, keyS]
theorem keyS_inj {a b : ByteArray} (h : keyS a = keyS b) : a = b := by
  unfold keyS at h
  cases a; cases b
  simp at h
  rw [h]
theorem key_ok {s : ByteArray} (h : s.size ≤ maxLen) : keyOf Ybaf.prog 9 (.string s) = some (keyS s) := keyOf_string_mk Ybaf.underlying9 h

structure Inv (w wr : World) (n : Nat) (path : ByteArray) (S : Nat → ByteArray) (k c : Nat) (p : Nat → Nat) (f g : Lit → Option (DataW Unit)) : Prop where
  mp : MapAt wr Ybaf.prog 9 ptrElem w.heap.size k c f
  ln : MapAt wr Ybaf.prog 9 (plainElem Ybaf.prog 3) (w.heap.size + 1) k c g
  fl : wr.rowIs (w.heap.size + 2) 28 4 (fileCells path w.heap.size)
  st : wr.rowIs (w.heap.size + 3) 30 n (sto k p)
  id : ∀ i, i < k → wr.cell? ⟨p i, 0, none⟩ = some (.string (S i))
  lo : ∀ i, i < k → w.heap.size + 4 ≤ p i ∧ p i < wr.heap.size
  has : ∀ i, i < k → f (keyS (S i)) = some (ptrD (p i))
  dom : ∀ kl, (f kl).isSome = true → ∃ i, i < k ∧ kl = keyS (S i)
  eqd : ∀ kl, (g kl).isSome = (f kl).isSome
  bel : Below w.heap.size w wr
  sz : w.heap.size + 4 ≤ wr.heap.size

/-- A key that was seen: its pointer is stored again. -/
theorem Inv.old {w wr : World} {n : Nat} {path : ByteArray} {S : Nat → ByteArray} {k c : Nat} {p : Nat → Nat} {f g : Lit → Option (DataW Unit)} (h : Inv w wr n path S k c p f g) (q : Nat) (hq : f (keyS (S k)) = some (ptrD q)) :
    ∃ p' f' g' c', Inv w (wr.setCell ⟨w.heap.size + 3, k, none⟩ (ptrV q)) n path S (k + 1) c' p' f' g' := by
  obtain ⟨i0, hi0, he0⟩ := h.dom (keyS (S k)) (by rw [hq]; rfl)
  have hS : S k = S i0 := keyS_inj he0
  have hqp : q = p i0 := by
    have := h.has i0 hi0
    rw [← hS, hq] at this
    simp [ptrD] at this
    omega
  refine ⟨fun i => if i = k then q else p i, f, g, c, ?_⟩
  refine ⟨(h.mp.setCell (by simp) _).mono (Nat.le_succ _), (h.ln.setCell (by simp) _).mono (Nat.le_succ _), h.fl.setOther (by simp) _, ?_, ?_, ?_, ?_, ?_, h.eqd, h.bel.setCell (by simp) _, by simpa using h.sz⟩
  · refine (h.st.set k (ptrV q)).congr fun i _ => ?_
    unfold sto
    by_cases hik : i = k
    · subst hik; simp
    · by_cases hlt : i < k
      · simp [hik, hlt, Nat.lt_succ_of_lt hlt]
      · simp [hik, hlt, show ¬ i < k + 1 by omega]
  · intro i hi
    by_cases hik : i = k
    · subst hik
      have := h.lo i0 hi0
      rw [World.cell?_setCell_other _ _ _ _ (by simp <;> omega)]
      simp only [if_true]
      rw [hqp, h.id i0 hi0, hS]
    · have := h.lo i (by omega)
      simp only [hik, if_false]
      rw [World.cell?_setCell_other _ _ _ _ (by simp <;> omega)]
      exact h.id i (by omega)
  · intro i hi
    by_cases hik : i = k
    · have := h.lo i0 hi0
      simp [hik, hqp]; exact this
    · have := h.lo i (by omega)
      simpa [hik] using this
  · intro i hi
    by_cases hik : i = k
    · subst hik; simp [hq]
    · simp only [hik, if_false]; exact h.has i (by omega)
  · intro kl hkl
    obtain ⟨i, hi, e⟩ := h.dom kl hkl
    exact ⟨i, by omega, e⟩

/-- A new key: a task is made, both maps and the slice take it. -/
theorem Inv.fresh {w wr w2 w3 : World} {n : Nat} {path : ByteArray} {S : Nat → ByteArray} {k c : Nat} {p : Nat → Nat} {f g : Lit → Option (DataW Unit)} (h : Inv w wr n path S k c p f g) (hq : f (keyS (S k)) = none)
    (cs : Array Value) (hcs : cs[0]? = some (.string (S k)))
    (m2 : MapAt w2 Ybaf.prog 9 ptrElem w.heap.size (k + 1) (if (f (keyS (S k))).isSome then c else c + 1) (putF f (keyS (S k)) (ptrD wr.heap.size))) (g2 : (wr.alloc (.cells cs 35)).grownBy w2 (some w.heap.size))
    (d3 : DataW Unit) (m3 : MapAt w3 Ybaf.prog 9 (plainElem Ybaf.prog 3) (w.heap.size + 1) (k + 1) (if (g (keyS (S k))).isSome then c else c + 1) (putF g (keyS (S k)) d3)) (g3 : w2.grownBy w3 (some (w.heap.size + 1))) :
    ∃ p' f' g' c', Inv w (w3.setCell ⟨w.heap.size + 3, k, none⟩ (ptrV wr.heap.size)) n path S (k + 1) c' p' f' g' := by
  have hsz := h.sz
  have s2 := g2.size
  have s3 := g3.size
  simp at s2
  have kf := isKeyS (S k)
  have hgn : (g (keyS (S k))).isSome = false := by rw [h.eqd, hq]; rfl
  -- a block that was there, is there
  have blk : ∀ j, j < wr.heap.size + 1 → j ≠ w.heap.size → j ≠ w.heap.size + 1 → w3.heap[j]? = (wr.alloc (.cells cs 35)).heap[j]? := fun j hj h1 h2 =>
    (g3.block j (by omega) (by simpa using h2)).trans (g2.block j (by simpa using hj) (by simpa using h1))
  have old : ∀ j, j < wr.heap.size → j ≠ w.heap.size → j ≠ w.heap.size + 1 → w3.heap[j]? = wr.heap[j]? := fun j hj h1 h2 =>
    (blk j (by omega) h1 h2).trans (Below.heap_alloc _ _ _ hj)
  refine ⟨fun i => if i = k then wr.heap.size else p i, putF f (keyS (S k)) (ptrD wr.heap.size), putF g (keyS (S k)) d3, c + 1, ?_⟩
  have m2' := m2
  rw [hq] at m2'
  have m3' := m3
  rw [hgn] at m3'
  refine ⟨(m2'.kept g3 (by simp)).setCell (by simp) _, m3'.setCell (by simp) _, (h.fl.of_block (old _ (by omega) (by omega) (by omega))).setOther (by simp) _, ?_, ?_, ?_, ?_, ?_, ?_, ?_, by simp; omega⟩
  · refine ((h.st.of_block (old _ (by omega) (by omega) (by omega))).set k (ptrV wr.heap.size)).congr fun i _ => ?_
    unfold sto
    by_cases hik : i = k
    · subst hik; simp
    · by_cases hlt : i < k
      · simp [hik, hlt, Nat.lt_succ_of_lt hlt]
      · simp [hik, hlt, show ¬ i < k + 1 by omega]
  · intro i hi
    by_cases hik : i = k
    · subst hik
      simp only [if_true]
      rw [World.cell?_setCell_other _ _ _ _ (by simp <;> omega), World.cell?_of_block (w := wr.alloc (.cells cs 35)) (blk _ (by simp) (by simp; omega) (by simp; omega))]
      simp [hcs]
    · have := h.lo i (by omega)
      simp only [hik, if_false]
      rw [World.cell?_setCell_other _ _ _ _ (by simp <;> omega), World.cell?_of_block (w := wr) (old _ (by simp; omega) (by simp; omega) (by simp; omega))]
      exact h.id i (by omega)
  · intro i hi
    by_cases hik : i = k
    · simp [hik]; omega
    · have := h.lo i (by omega)
      simp [hik]; omega
  · intro i hi
    by_cases hik : i = k
    · subst hik; simp [putF_same f kf]
    · simp only [hik, if_false]
      have hne : keyS (S i) ≠ keyS (S k) := fun e => by
        have := h.has i (by omega)
        rw [e, hq] at this
        cases this
      rw [putF_other f kf _ hne]
      exact h.has i (by omega)
  · intro kl hkl
    by_cases hkk : kl = keyS (S k)
    · exact ⟨k, by omega, hkk⟩
    · rw [putF_other f kf _ hkk] at hkl
      obtain ⟨i, hi, e⟩ := h.dom kl hkl
      exact ⟨i, by omega, e⟩
  · intro kl
    by_cases hkk : kl = keyS (S k)
    · subst hkk; rw [putF_same f kf, putF_same g kf]; rfl
    · rw [putF_other f kf _ hkk, putF_other g kf _ hkk]; exact h.eqd kl
  · refine Below.setCell (Below.grown (Below.grown (h.bel.alloc (by omega) _) g2 (by simp; omega) ?_) g3 (by omega) ?_) (by simp) _
    · intro j hj; cases hj; exact Nat.le_refl _
    · intro j hj; cases hj; exact Nat.le_succ _
end Go.Proofs.YbulkdxpyFmt
