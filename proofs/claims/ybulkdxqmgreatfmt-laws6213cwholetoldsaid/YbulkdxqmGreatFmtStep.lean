/- LawS6213CWhole: the loop's state and its steps. -/
import Derived.Test.YbulkdxqmGreatFmtCore
import Derived.Test.YbulkdxqmGreatFmtSeen
namespace Go.Proofs.YbulkdxqmGreatFmt
set_option linter.unusedVariables false
open Go.RowKit

theorem own_of_block {w w' : World} {base : Nat} {e : TypeId} {size : Nat} {v : Value} {n : Nat} {xs : List Value} (h : w.ownsRow base e size v n xs) (hb : ∀ k, v.ownBlock = some k → w'.heap[k]? = w.heap[k]?) : w'.ownsRow base e size v n xs := by
  obtain ⟨hl, h⟩ := h
  refine ⟨hl, ?_⟩
  rcases h with h | ⟨g, cap, cur, rfl, h1, hg, r⟩
  · exact .inl h
  · exact .inr ⟨g, cap, cur, rfl, h1, (hb g rfl).trans hg, r⟩
theorem Below.of_chg {X : Nat → Nat → Prop} {n₀ : Nat} {w W W' : World} (h : Below n₀ w W) (hn : n₀ ≤ W.heap.size) (hc : Chg X W W') (hX : ∀ x t, x < n₀ → ¬ X x t) : Below n₀ w W' :=
  h.trans ⟨hc.os, hc.tape, hc.output, hc.size, fun k hk => hc.blk k (by omega) (fun t => hX k t hk)⟩

/-- The loop's state: W now, w at the start; T: the submitter's and its jobs' blocks; K: blocks that a round keeps by itself. -/
structure St (w W : World) (i : Nat) (T K : Nat → Prop) (P : List Nat) (id slots : Nat → Int) (sum want : Int) (v12 v13 v14 : Value) (L12 L13 L14 : List Value) : Prop where
  core : Core W w.heap.size (w.heap.size + 3) (w.heap.size + 2) (w.heap.size + 1) (w.heap.size + 4) T P id slots sum want
  r12 : W.ownsRow w.heap.size 23 1 v12 L12.length L12
  r13 : W.ownsRow w.heap.size 2 1 v13 L13.length L13
  r14 : W.ownsRow w.heap.size 2 1 v14 L14.length L14
  a12 : ∀ k, v12.ownBlock = some k → ¬ T k ∧ k ≠ w.heap.size + 5 ∧ v13.ownBlock ≠ some k ∧ v14.ownBlock ≠ some k
  a13 : ∀ k, v13.ownBlock = some k → ¬ T k ∧ k ≠ w.heap.size + 5 ∧ v14.ownBlock ≠ some k
  a14 : ∀ k, v14.ownBlock = some k → ¬ T k ∧ k ≠ w.heap.size + 5
  kp : ∀ x, K x → ¬ T x ∧ x ≠ w.heap.size + 5 ∧ v12.ownBlock ≠ some x ∧ v13.ownBlock ≠ some x ∧ v14.ownBlock ≠ some x ∧ x < W.heap.size
  mbT : ¬ T (w.heap.size + 5)
  seen : Seen W (w.heap.size + 5) i (fun v => v ∈ P.map id)
  bel : Below w.heap.size w W

section
variable {w W W' : World} {i : Nat} {T K : Nat → Prop} {P : List Nat} {id slots : Nat → Int} {sum want : Int} {v12 v13 v14 : Value} {L12 L13 L14 : List Value} {X : Nat → Nat → Prop}

theorem St.next (h : St w W i T K P id slots sum want v12 v13 v14 L12 L13 L14) (hc : Chg X W W') (hX : ∀ x t, (T x ∨ x = w.heap.size + 5 ∨ v12.ownBlock = some x ∨ v13.ownBlock = some x ∨ v14.ownBlock = some x ∨ x < w.heap.size) → ¬ X x t) : St w W' i T K P id slots sum want v12 v13 v14 L12 L13 L14 := by
  have hl := h.bel.size
  refine ⟨h.core.next hc (fun x t hx => hX x t (Or.inl hx)), own_of_block h.r12 (fun k hk => hc.blk k (h.r12.lt k hk).2 (fun t => hX k t (by simp [hk]))), own_of_block h.r13 (fun k hk => hc.blk k (h.r13.lt k hk).2 (fun t => hX k t (by simp [hk]))), own_of_block h.r14 (fun k hk => hc.blk k (h.r14.lt k hk).2 (fun t => hX k t (by simp [hk]))), h.a12, h.a13, h.a14, fun x hx => ?_, h.mbT, h.seen.of_block (hc.blk _ h.seen.lt (fun t => hX _ t (by simp))), Below.of_chg h.bel hl hc (fun x t hx => hX x t (by simp [hx]))⟩
  obtain ⟨k1, k2, k3, k4, k5, k6⟩ := h.kp x hx
  exact ⟨k1, k2, k3, k4, k5, Nat.lt_of_lt_of_le k6 hc.size⟩
theorem St.later (h : St w W i T K P id slots sum want v12 v13 v14 L12 L13 L14) (hB : Below W.heap.size W W') : St w W' i T K P id slots sum want v12 v13 v14 L12 L13 L14 :=
  h.next (Chg.of_below (S := S0) hB) (fun _ _ _ e => e)
theorem St.more {n : Nat} (h : St w W i T K P id slots sum want v12 v13 v14 L12 L13 L14) (hn : i ≤ n) : St w W n T K P id slots sum want v12 v13 v14 L12 L13 L14 := by
  obtain ⟨c, f, m, hf⟩ := h.seen
  exact ⟨h.core, h.r12, h.r13, h.r14, h.a12, h.a13, h.a14, h.kp, h.mbT, ⟨c, f, m.mono hn, hf⟩, h.bel⟩
theorem St.drop (h : St w W i T K P id slots sum want v12 v13 v14 L12 L13 L14) : St w W i T (fun _ => False) P id slots sum want v12 v13 v14 L12 L13 L14 :=
  ⟨h.core, h.r12, h.r13, h.r14, h.a12, h.a13, h.a14, fun x hx => hx.elim, h.mbT, h.seen, h.bel⟩
/-- A new block that the round keeps. -/
theorem St.box (h : St w W i T K P id slots sum want v12 v13 v14 L12 L13 L14) (o : Obj) : St w (W.alloc o) i T (fun x => x = W.heap.size) P id slots sum want v12 v13 v14 L12 L13 L14 := by
  have h' := h.later ((Below.refl _ W).alloc (Nat.le_refl _) o)
  refine ⟨h'.core, h'.r12, h'.r13, h'.r14, h'.a12, h'.a13, h'.a14, fun x hx => ?_, h'.mbT, h'.seen, h'.bel⟩
  subst hx
  refine ⟨fun e => ?_, fun e => ?_, fun e => ?_, fun e => ?_, fun e => ?_, by simp⟩
  · have := (h.core.lo _ e).2; omega
  · have := h.seen.lt; omega
  · have := (h.r12.lt _ e).2; omega
  · have := (h.r13.lt _ e).2; omega
  · have := (h.r14.lt _ e).2; omega

theorem St.app12 {g cap : Nat} {u : Value} (h : St w W i T K P id slots sum want v12 v13 v14 L12 L13 L14) (ho : W'.ownsRow w.heap.size 23 1 (.slice (some ⟨g, 0, none⟩) (L12.length + 1) cap) (L12.length + 1) (L12 ++ [u])) (hc : Chg (fun x _ => v12.ownBlock = some x) W W') (hg : v12.ownBlock = some g ∨ g = W.heap.size) :
    St w W' i T K P id slots sum want (.slice (some ⟨g, 0, none⟩) (L12.length + 1) cap) v13 v14 (L12 ++ [u]) L13 L14 ∧ ∀ x, K x → W'.heap[x]? = W.heap[x]? := by
  have hl := h.bel.size
  have el : (L12 ++ [u]).length = L12.length + 1 := by simp
  have gn : ∀ k, some g = some k → ¬ T k ∧ k ≠ w.heap.size + 5 ∧ v13.ownBlock ≠ some k ∧ v14.ownBlock ≠ some k := fun k hk => by
    obtain rfl : g = k := by simpa using hk
    rcases hg with hg | hg
    · exact h.a12 g hg
    · refine ⟨fun e => ?_, fun e => ?_, fun e => ?_, fun e => ?_⟩
      · have := (h.core.lo _ e).2; omega
      · have := h.seen.lt; omega
      · have := (h.r13.lt _ e).2; omega
      · have := (h.r14.lt _ e).2; omega
  refine ⟨⟨h.core.next hc (fun x t hx e => (h.a12 x e).1 hx), by rw [el]; exact ho, own_of_block h.r13 (fun k hk => hc.blk k (h.r13.lt k hk).2 (fun t e => (h.a12 k e).2.2.1 hk)), own_of_block h.r14 (fun k hk => hc.blk k (h.r14.lt k hk).2 (fun t e => (h.a12 k e).2.2.2 hk)), gn, h.a13, h.a14, fun x hx => ?_, h.mbT, h.seen.of_block (hc.blk _ h.seen.lt (fun t e => (h.a12 _ e).2.1 rfl)), Below.of_chg h.bel hl hc (fun x t hx e => by have := (h.r12.lt x e).1; omega)⟩, fun x hx => ?_⟩
  · obtain ⟨k1, k2, k3, k4, k5, k6⟩ := h.kp x hx
    refine ⟨k1, k2, fun e => ?_, k4, k5, Nat.lt_of_lt_of_le k6 hc.size⟩
    obtain rfl : g = x := by simpa [Value.ownBlock] using e
    rcases hg with hg | hg
    · exact k3 hg
    · omega
  · obtain ⟨k1, k2, k3, k4, k5, k6⟩ := h.kp x hx
    exact hc.blk x k6 (fun t e => k3 e)
theorem St.app13 {g cap : Nat} {u : Value} (h : St w W i T K P id slots sum want v12 v13 v14 L12 L13 L14) (ho : W'.ownsRow w.heap.size 2 1 (.slice (some ⟨g, 0, none⟩) (L13.length + 1) cap) (L13.length + 1) (L13 ++ [u])) (hc : Chg (fun x _ => v13.ownBlock = some x) W W') (hg : v13.ownBlock = some g ∨ g = W.heap.size) :
    St w W' i T K P id slots sum want v12 (.slice (some ⟨g, 0, none⟩) (L13.length + 1) cap) v14 L12 (L13 ++ [u]) L14 ∧ ∀ x, K x → W'.heap[x]? = W.heap[x]? := by
  have hl := h.bel.size
  have el : (L13 ++ [u]).length = L13.length + 1 := by simp
  have gn : ∀ k, some g = some k → ¬ T k ∧ k ≠ w.heap.size + 5 ∧ v14.ownBlock ≠ some k := fun k hk => by
    obtain rfl : g = k := by simpa using hk
    rcases hg with hg | hg
    · exact h.a13 g hg
    · refine ⟨fun e => ?_, fun e => ?_, fun e => ?_⟩
      · have := (h.core.lo _ e).2; omega
      · have := h.seen.lt; omega
      · have := (h.r14.lt _ e).2; omega
  refine ⟨⟨h.core.next hc (fun x t hx e => (h.a13 x e).1 hx), own_of_block h.r12 (fun k hk => hc.blk k (h.r12.lt k hk).2 (fun t e => (h.a12 k hk).2.2.1 e)), by rw [el]; exact ho, own_of_block h.r14 (fun k hk => hc.blk k (h.r14.lt k hk).2 (fun t e => (h.a13 k e).2.2 hk)), fun k hk => ?_, gn, h.a14, fun x hx => ?_, h.mbT, h.seen.of_block (hc.blk _ h.seen.lt (fun t e => (h.a13 _ e).2.1 rfl)), Below.of_chg h.bel hl hc (fun x t hx e => by have := (h.r13.lt x e).1; omega)⟩, fun x hx => ?_⟩
  · obtain ⟨b1, b2, b3, b4⟩ := h.a12 k hk
    refine ⟨b1, b2, fun e => ?_, b4⟩
    obtain rfl : g = k := by simpa [Value.ownBlock] using e
    rcases hg with hg | hg
    · exact b3 hg
    · have := (h.r12.lt _ hk).2; omega
  · obtain ⟨k1, k2, k3, k4, k5, k6⟩ := h.kp x hx
    refine ⟨k1, k2, k3, fun e => ?_, k5, Nat.lt_of_lt_of_le k6 hc.size⟩
    obtain rfl : g = x := by simpa [Value.ownBlock] using e
    rcases hg with hg | hg
    · exact k4 hg
    · omega
  · obtain ⟨k1, k2, k3, k4, k5, k6⟩ := h.kp x hx
    exact hc.blk x k6 (fun t e => k4 e)
theorem St.app14 {g cap : Nat} {u : Value} (h : St w W i T K P id slots sum want v12 v13 v14 L12 L13 L14) (ho : W'.ownsRow w.heap.size 2 1 (.slice (some ⟨g, 0, none⟩) (L14.length + 1) cap) (L14.length + 1) (L14 ++ [u])) (hc : Chg (fun x _ => v14.ownBlock = some x) W W') (hg : v14.ownBlock = some g ∨ g = W.heap.size) :
    St w W' i T K P id slots sum want v12 v13 (.slice (some ⟨g, 0, none⟩) (L14.length + 1) cap) L12 L13 (L14 ++ [u]) ∧ ∀ x, K x → W'.heap[x]? = W.heap[x]? := by
  have hl := h.bel.size
  have el : (L14 ++ [u]).length = L14.length + 1 := by simp
  have gn : ∀ k, some g = some k → ¬ T k ∧ k ≠ w.heap.size + 5 := fun k hk => by
    obtain rfl : g = k := by simpa using hk
    rcases hg with hg | hg
    · exact h.a14 g hg
    · refine ⟨fun e => ?_, fun e => ?_⟩
      · have := (h.core.lo _ e).2; omega
      · have := h.seen.lt; omega
  refine ⟨⟨h.core.next hc (fun x t hx e => (h.a14 x e).1 hx), own_of_block h.r12 (fun k hk => hc.blk k (h.r12.lt k hk).2 (fun t e => (h.a12 k hk).2.2.2 e)), own_of_block h.r13 (fun k hk => hc.blk k (h.r13.lt k hk).2 (fun t e => (h.a13 k hk).2.2 e)), by rw [el]; exact ho, fun k hk => ?_, fun k hk => ?_, gn, fun x hx => ?_, h.mbT, h.seen.of_block (hc.blk _ h.seen.lt (fun t e => (h.a14 _ e).2 rfl)), Below.of_chg h.bel hl hc (fun x t hx e => by have := (h.r14.lt x e).1; omega)⟩, fun x hx => ?_⟩
  · obtain ⟨b1, b2, b3, b4⟩ := h.a12 k hk
    refine ⟨b1, b2, b3, fun e => ?_⟩
    obtain rfl : g = k := by simpa [Value.ownBlock] using e
    rcases hg with hg | hg
    · exact b4 hg
    · have := (h.r12.lt _ hk).2; omega
  · obtain ⟨b1, b2, b3⟩ := h.a13 k hk
    refine ⟨b1, b2, fun e => ?_⟩
    obtain rfl : g = k := by simpa [Value.ownBlock] using e
    rcases hg with hg | hg
    · exact b3 hg
    · have := (h.r13.lt _ hk).2; omega
  · obtain ⟨k1, k2, k3, k4, k5, k6⟩ := h.kp x hx
    refine ⟨k1, k2, k3, k4, fun e => ?_, Nat.lt_of_lt_of_le k6 hc.size⟩
    obtain rfl : g = x := by simpa [Value.ownBlock] using e
    rcases hg with hg | hg
    · exact k5 hg
    · omega
  · obtain ⟨k1, k2, k3, k4, k5, k6⟩ := h.kp x hx
    exact hc.blk x k6 (fun t e => k5 e)

/-- A job's cells as the program makes it. -/
structure JobC (C : Array Value) (v s : Int) : Prop where
  c0 : C[0]? = some (.pointer none)
  c1 : C[1]? = some (.pointer none)
  c2 : C[2]? = some (.pointer none)
  c3 : ∃ u, C[3]? = some u
  c4 : C[4]? = some (.bool false)
  c6 : C[6]? = some (.int .i64 v)
  c8 : C[8]? = some (.int .i64 s)
  c18 : C[18]? = some (.bool false)

theorem St.wait {W2 : World} {C : Array Value} {v s : Int} (h : St w W i T K P id slots sum want v12 v13 v14 L12 L13 L14) (hs : Seen W2 (w.heap.size + 5) (i + 1) (fun y => y = v ∨ y ∈ P.map id)) (hc : Chg (fun x _ => x = w.heap.size + 5) W W2) (hC : JobC C v s) (hv : v ∉ P.map id) (hP : P.length < 99999) :
    Calls Ybaz.prog 6 #[.pointer (some ⟨w.heap.size + 4, 0, none⟩), .pointer (some ⟨w.heap.size + 3, 0, none⟩), .pointer (some ⟨W2.heap.size, 0, none⟩)] (W2.alloc (.cells C 32)) fun e w' => e = .returned (.tuple #[]) ∧
      ∃ T' id' slots', St w w' (i + 1) T' K (P ++ [W2.heap.size]) id' slots' (wrap64 (sum + s)) (wrap64 (want + 1)) v12 v13 v14 L12 L13 L14 ∧ id' W2.heap.size = v ∧ slots' W2.heap.size = s ∧ (∀ k ∈ P, id' k = id k ∧ slots' k = slots k) ∧
        (∀ x, K x → w'.heap[x]? = W.heap[x]?) ∧ (∃ p, w'.cell? ⟨W2.heap.size, 0, none⟩ = some (ptr p)) ∧ (∃ p, w'.cell? ⟨W2.heap.size, 1, none⟩ = some (ptr p)) ∧ w'.cell? ⟨W2.heap.size, 2, none⟩ = some (.pointer none) := by
  obtain ⟨j, hj⟩ : ∃ j, j = W2.heap.size := ⟨_, rfl⟩
  rw [← hj]
  have hl := h.bel.size
  have hsz := hc.size
  have hn : (W2.alloc (.cells C 32)).heap[j]? = some (.cells C 32 (0, 0)) := by rw [hj]; exact heap_alloc_new _ _
  have hcell : ∀ t u, C[t]? = some u → (W2.alloc (.cells C 32)).cell? ⟨j, t, none⟩ = some u := fun t u hu => by rw [cell_of_row _ _ _ _ _ _ hn]; exact hu
  have hc3 : Chg (fun x _ => x = w.heap.size + 5) W (W2.alloc (.cells C 32)) := hc.alloc _
  have hTj : ∀ x, T x → x < W.heap.size := fun x hx => (h.core.lo x hx).2
  have hPj : ∀ k ∈ P, k < W.heap.size := fun k hk => hTj k (h.core.base k (by simp [hk]))
  have hE : ∀ k ∈ P, (fun k => if k = j then v else id k) k = id k ∧ (fun k => if k = j then s else slots k) k = slots k := fun k hk => by
    have := hPj k hk
    have e : k ≠ j := by omega
    simp [e]
  have core3 := (h.core.next hc3 (fun x t hx e => h.mbT (e ▸ hx))).congr (id' := fun k => if k = j then v else id k) (slots' := fun k => if k = j then s else slots k) hE
  have hjob : JobAt (W2.alloc (.cells C 32)) j ((fun k => if k = j then v else id k) j) ((fun k => if k = j then s else slots k) j) := by
    simp only [if_true]
    refine ⟨⟨C, hn⟩, fun t ht => ?_, hcell 4 _ hC.c4, hcell 6 _ hC.c6, hcell 8 _ hC.c8, hcell 18 _ hC.c18⟩
    have ht' : t = 0 ∨ t = 1 ∨ t = 2 := by omega
    rcases ht' with rfl | rfl | rfl
    · rw [hcell 0 _ hC.c0]; rfl
    · rw [hcell 1 _ hC.c1]; rfl
    · rw [hcell 2 _ hC.c2]; rfl
  obtain ⟨u3, hu3⟩ := hC.c3
  refine (core3.wait j hjob (fun e => by have := hTj j e; omega) (by omega) (fun k hk e => ?_) hP ⟨u3, hcell 3 _ hu3⟩ (hcell 2 _ hC.c2)).mono ?_
  · have e1 := (hE k hk).1
    simp only [if_true] at e e1
    rw [e1] at e
    exact hv (by rw [← e]; exact List.mem_map_of_mem hk)
  rintro e w' ⟨rfl, T', k1, k2, k3, k4, k5, k6, k7⟩
  have hsz3 : (W2.alloc (.cells C 32)).heap.size = j + 1 := by simp [hj]
  have hsz' := k2.size
  -- a block of before that is neither the submitter's nor the map's
  have keep : ∀ x, x < W.heap.size → ¬ T x → x ≠ w.heap.size + 5 → w'.heap[x]? = W.heap[x]? := fun x h1 h2 h3 => by
    rw [k2.blk x (by omega) (fun t e => by rcases e with e | e; exact h2 e; omega)]
    exact hc3.blk x h1 (fun t e => h3 e)
  have nT' : ∀ x, x < W.heap.size → ¬ T x → ¬ T' x := fun x h1 h2 e => by
    rcases k3 x (by omega) e with e | e
    · exact h2 e
    · omega
  have mb' : w'.heap[w.heap.size + 5]? = W2.heap[w.heap.size + 5]? := by
    have hm := hs.lt
    rw [k2.blk _ (by omega) (fun t e => by rcases e with e | e; exact h.mbT e; omega)]
    exact heap_alloc_old _ _ hm
  refine ⟨rfl, T', _, _, ⟨by simpa using k1, own_of_block h.r12 (fun k hk => keep k (h.r12.lt k hk).2 (h.a12 k hk).1 (h.a12 k hk).2.1), own_of_block h.r13 (fun k hk => keep k (h.r13.lt k hk).2 (h.a13 k hk).1 (h.a13 k hk).2.1), own_of_block h.r14 (fun k hk => keep k (h.r14.lt k hk).2 (h.a14 k hk).1 (h.a14 k hk).2), fun k hk => ⟨nT' k (h.r12.lt k hk).2 (h.a12 k hk).1, (h.a12 k hk).2⟩, fun k hk => ⟨nT' k (h.r13.lt k hk).2 (h.a13 k hk).1, (h.a13 k hk).2⟩, fun k hk => ⟨nT' k (h.r14.lt k hk).2 (h.a14 k hk).1, (h.a14 k hk).2⟩, fun x hx => ?_, nT' _ h.seen.lt h.mbT, ?_, ?_⟩, by simp, by simp, hE, fun x hx => ?_, k4, k5, k6⟩
  · obtain ⟨b1, b2, b3, b4, b5, b6⟩ := h.kp x hx
    exact ⟨nT' x b6 b1, b2, b3, b4, b5, by omega⟩
  · refine (hs.of_block mb').turn (fun y => ?_)
    rw [List.map_append, List.mem_append, List.map_congr_left (fun k hk => (hE k hk).1)]
    simp; exact Or.comm
  · exact Below.of_chg (Below.of_chg h.bel hl hc3 (fun x t hx e => by omega)) (by omega) k2 (fun x t hx e => by
      rcases e with e | e
      · have := (h.core.lo x e).1; omega
      · omega)
  · obtain ⟨b1, b2, b3, b4, b5, b6⟩ := h.kp x hx
    exact keep x b6 b1 b2
end
end Go.Proofs.YbulkdxqmGreatFmt
