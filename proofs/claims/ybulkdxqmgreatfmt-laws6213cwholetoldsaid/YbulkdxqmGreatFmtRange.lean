/- LawS6213CWhole: a range over a function whose rounds all go on, by the kit's two base laws; the caller's invariant bears the turning of whatever is no cells. -/
import Derived.RangeFuncNested
import Derived.RangeFuncBound
import Derived.RangeFuncCalls
namespace Go.Proofs.YbulkdxqmGreatFmt
set_option linter.unusedVariables false
open Go Go.RowKit

theorem range_all {P : Program} {n : Nat} {g : Operand} {ps : Array Tmp} {assign body : Code} {Q : Exit → Act → World → Prop} {a : Act} {w : World} (xs : List Nat) {gf : Nat} {lb : Array Value}
    (hg : a.eval g = .func (.func gf) #[] lb) (eg : ∀ args w, (callFunc gf args).run P w = .ok (.enter gf args) w) (encs : Nat → Array Value) (hps : ∀ x, (encs x).size = ps.size) (Kp : World → World → Prop) (hKt : ∀ {A B C : World}, Kp A B → Kp B C → Kp A C) (hKb : ∀ (W : World) (o o' : Obj), W.heap[w.heap.size + 1]? = some o → o.isCells = false → Kp W (W.putObj (w.heap.size + 1) o'))
    (I : List Nat → World → Prop) (hI : OwnFrom w.heap.size I) (h0 : I [] w)
    (hseq : ∀ (J : List Nat → World → Prop) (W : World), Below w.heap.size w W → w.heap.size + 2 ≤ W.heap.size → (∀ pre W', J pre W' → I pre W') → OwnFrom W.heap.size J → (∀ m pre x W1, J pre W1 → pre ++ [x] <+: xs → YieldAt Fence.wide m P (w.heap.size + 1) (encs x) W1 fun e W' => e = .returned (.bool true) ∧ J (pre ++ [x]) W' ∧ Kp W1 W') → J [] W → Calls P gf (#[.func (.yield (w.heap.size + 1)) #[] #[]] ++ lb) W fun e W' => (∃ v, e = .returned v) ∧ J xs W')
    (hround : ∀ (m l : Nat) (pre : List Nat) (x : Nat) (W : World), w.heap.size ≤ l → I pre W → pre ++ [x] <+: xs → (∃ r, W.heap[l]? = some (.loop r)) →
      assign.wpIn (Fence.wide.inRound l) m P (Exit.then (fun a1 W1 => KeepsFrom w.heap.size W W1 ∧ Kp W W1 ∧ I pre W1 ∧ ∀ o', body.wpIn (Fence.wide.inRound l) m P (fun e a2 W2 => e = .normal ∧ KeepsFrom w.heap.size (W1.putObj l o') W2 ∧ Kp (W1.putObj l o') W2 ∧ I (pre ++ [x]) W2) a1 (W1.putObj l o')) (fun _ _ _ => False))
        { tmps := (ps.zip (encs x)).foldl (fun t (p, v) => t.setIfInBounds p v) a.tmps, defers := [] } W)
    (hdone : ∀ (D : Nat) (W : World), w.heap.size ≤ D → I xs W → W.heap[D]? = some (.deferred (some [])) → Q .normal { a with defers := { target := .collected D, args := #[] } :: a.defers } W) :
    (Code.rangeFunc g ps assign body).wpIn Fence.wide n P Q a w := by
  refine wpIn_rangeFunc ?_
  intro fn hfn
  obtain ⟨rec, hrec⟩ : ∃ rec : LoopState → Option Code → Loop, rec = fun st pe => { state := st, pending := pe, fn, tmps := a.tmps, params := ps, assign, body, defers := w.heap.size } := ⟨_, rfl⟩
  obtain ⟨W1, hW1⟩ : ∃ W1, (w.alloc (.deferred (some []))).alloc (.loop (rec .ready none)) = W1 := ⟨_, rfl⟩
  have hs1 : W1.heap.size = w.heap.size + 2 := by rw [← hW1]; simp
  have hL1 : W1.heap[w.heap.size + 1]? = some (.loop (rec .ready none)) := by
    rw [← hW1]; have := World.alloc_heap_new (w.alloc (.deferred (some []))) (.loop (rec .ready none)); rwa [World.size_alloc] at this
  have hK1 : W1.heap[w.heap.size]? = some (.deferred (some [])) := by
    rw [← hW1]; exact (Below.heap_alloc _ _ _ (by simp)).trans (World.alloc_heap_new w _)
  have hI1 : I [] W1 := by rw [← hW1]; exact hI.alloc _ (hI.alloc _ h0)
  have hb1 : Below w.heap.size w W1 := by
    rw [← hW1]; exact ((Below.refl _ w).alloc (Nat.le_refl _) _).alloc (by simp) _
  refine ⟨w.heap.size + 1, [{ target := .collected w.heap.size, args := #[] }], W1, { target := .fn (.func gf) lb, args := #[.func (.yield (w.heap.size + 1)) #[] #[]] }, W1, gf,
    #[.func (.yield (w.heap.size + 1)) #[] #[]] ++ lb, W1, ?_, ?_, fun _ _ => trivial, ?_, (fun h => by cases h), ?_⟩
  · rw [← hW1, hrec]; exact run_enterLoop_outer _ _ _ _ _
  · simp only [resolve, hg]
    simp [go_sem]
  · simp [invoke, go_sem, eg]
  · refine callsIn_wide.2 ((hseq (fun pre W => I pre W ∧ W.heap[w.heap.size + 1]? = some (.loop (rec .ready none)) ∧ W.heap[w.heap.size]? = some (.deferred (some []))) W1 hb1 (by omega) (fun _ _ h => h.1) (fun s A B row hs hg' hr => ?_) ?_ ⟨hI1, hL1, hK1⟩).mono ?_)
    · have keep : ∀ k o, k < W1.heap.size → A.heap[k]? = some o → B.heap[k]? = some o := fun k o hk ho => (hg'.block k (Array.getElem?_eq_some_iff.1 ho).1 (fun e => by have := (hr k e.symm).1; omega)).trans ho
      exact ⟨hI s A B row hs.1 hg' (fun r e => ⟨by have := (hr r e).1; omega, (hr r e).2⟩), keep _ _ (by omega) hs.2.1, keep _ _ (by omega) hs.2.2⟩
    · rintro m pre x W ⟨hi, hl, hk⟩ hx
      have hy := run_yield (P := P) (args := encs x) hl (by rw [hrec]; exact hps x)
      rw [hrec] at hy
      refine ⟨fn, _, assign, body, hy, roundIn_of_wpIn trivial (wpIn_mono (hround m (w.heap.size + 1) pre x W (by omega) hi hx ⟨_, hl⟩) ?_)⟩
      rintro e a1 Wa hp
      cases e with
      | normal =>
        obtain ⟨hkf, hbl, hia, hbody⟩ := hp
        have hla := hkf.same _ _ (by omega) hl rfl
        have hka := hkf.same _ _ (Nat.le_refl _) hk rfl
        refine ⟨_, run_beginRound hla (by rw [hrec]), wpIn_mono (hbody _) ?_⟩
        rintro e2 a2 W2 ⟨rfl, hkf2, hbl2, hi2⟩
        have hsz : w.heap.size + 1 < Wa.heap.size := (Array.getElem?_eq_some_iff.1 hla).1
        have hl2 := hkf2.same (w.heap.size + 1) (.loop { rec .ready none with state := .busy }) (by omega) (World.putObj_heap_same hsz) rfl
        have hk2 := hkf2.same w.heap.size _ (Nat.le_refl _) ((World.putObj_heap_other (by omega)).trans hka) rfl
        have hend := run_endRound (P := P) none hl2
        have hsz2 : w.heap.size + 1 < W2.heap.size := (Array.getElem?_eq_some_iff.1 hl2).1
        refine ⟨_, _, hend, rfl, ⟨hI.putObj _ hi2 (by omega) hl2 rfl, ?_, (World.putObj_heap_other (by omega)).trans hk2⟩, ?_⟩
        · rw [World.putObj_heap_same hsz2, hrec]; rfl
        · exact hKt (hKt (hKt hbl (hKb Wa _ _ hla rfl)) hbl2) (hKb W2 _ _ hl2 rfl)
      | exit id => exact hp.elim
      | goto t => exact hp.elim
      | ret => exact hp.elim
      | panic ch => exact hp.elim
      | outgrown => exact hp.elim
    · rintro e W2 ⟨⟨v, rfl⟩, hi, hl, hk⟩
      exact ⟨none, _, by have := run_endLoop (P := P) hl (by rw [hrec]; simp); rw [hrec] at this; exact this, hdone _ _ (Nat.le_refl _) (hI.putObj _ hi (by omega) hl rfl) ((World.putObj_heap_other (by omega)).trans hk)⟩
end Go.Proofs.YbulkdxqmGreatFmt
