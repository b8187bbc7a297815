/- LawS6213CWhole: a slice's own row, cell by cell; copy over elements of k cells. -/
import Derived.Test.YbulkdxqmGreatFmtSum
import Derived.Laws.IdiomCopy
import Derived.Deep.AppendSrc
namespace Go.Proofs.YbulkdxqmGreatFmt
set_option linter.unusedVariables false
open Go.RowKit

/-- The row at g: c places of k cells each, the first n of them taken, holding xs. -/
structure Arr (w : World) (g e k n c : Nat) (xs : List Value) : Prop where
  cell : ∀ j v, xs[j]? = some v → w.cell? ⟨g, j, none⟩ = some v
  room : ∀ j, j < c * k → (w.cell? ⟨g, j, none⟩).isSome = true
  free : ∀ j, w.frozen? ⟨g, j, none⟩ = false
  shp : w.shape? g = some (e, c * k)
  len : xs.length = n * k
  nc : n ≤ c
  cm : c ≤ 9223372036854775807
  one : ∀ v ∈ xs, v.oneCell' = true

theorem Arr.lt {w : World} {g e k n c : Nat} {xs : List Value} (h : Arr w g e k n c xs) : g < w.heap.size := shape_lt h.shp
theorem Arr.next {w w' : World} {S : Nat → Nat → Prop} {g e k n c : Nat} {xs : List Value} (h : Arr w g e k n c xs) (hc : Chg S w w') (hn : ∀ j, ¬ S g j) : Arr w' g e k n c xs :=
  ⟨fun j v hj => hc.keep (h.cell j v hj) (hn j), fun j hj => hc.has g j (h.room j hj), fun j => (hc.froz g j h.lt).trans (h.free j), hc.shp _ _ h.shp, h.len, h.nc, h.cm, h.one⟩

theorem Chg.setCells {S : Nat → Nat → Prop} {w : World} (b : Nat) : ∀ (vs : List Value) (o : Nat) (w1 : World), Chg S w w1 → (b < w.heap.size → ∀ j, j < vs.length → S b (o + j)) → Chg S w (w1.setCells b o vs)
  | [], _, _, h, _ => h
  | v :: r, o, w1, h, hS => Chg.setCells b r (o + 1) (w1.setCell ⟨b, o, none⟩ v) (h.set b o v (fun hb => by simpa using hS hb 0 (by simp))) (fun hb j hj => by have := hS hb (j + 1) (by simp; omega); rwa [show o + (j + 1) = o + 1 + j by omega] at this)
theorem shape_setCells (b : Nat) (vs : List Value) (o : Nat) (w : World) (x : Nat) (s : TypeId × Nat) (h : w.shape? x = some s) : (w.setCells b o vs).shape? x = some s :=
  (Chg.setCells (S := fun _ _ => True) b vs o w (Chg.refl _ w) (fun _ _ _ => trivial)).shp x s h
theorem has_setCells (b : Nat) (vs : List Value) (o : Nat) (w : World) (x k : Nat) (h : (w.cell? ⟨x, k, none⟩).isSome = true) : ((w.setCells b o vs).cell? ⟨x, k, none⟩).isSome = true :=
  (Chg.setCells (S := fun _ _ => True) b vs o w (Chg.refl _ w) (fun _ _ _ => trivial)).has x k h

/-- copy over elements of k cells: all is read before anything is written. -/
theorem run_copyK {P : Program} (w : World) (dT sT ty elem : TypeId) (k b o dLen dCap : Nat) (a : Addr) (sLen sCap m : Nat) (cs : List Value)
    (hu : P.underlying dT = some (.slice elem)) (hs : (P.info? elem).map (·.size) = some k) (hm : Nat.min sLen dLen = m) (hn : cs.length = m * k)
    (hsrc : ∀ j v, cs[j]? = some v → w.cell? (a.add j) = some v) (hc : ∀ j, j < cs.length → (w.cell? ⟨b, o + j, none⟩).isSome = true) (hf : ∀ j, j < cs.length → w.frozen? ⟨b, o + j, none⟩ = false) (h1 : ∀ v ∈ cs, v.oneCell' = true) :
    (Builtin.copy_ #[dT, sT] ty #[.slice (some ⟨b, o, none⟩) dLen dCap, .slice (some a) sLen sCap]).run P w = .ok (goInt m) (w.setCells b o cs) := by
  have hl := run_loadCells_list (P := P) w a cs hsrc
  have hst := run_storeCells_cells (P := P) b o cs 0 w (by simpa using hc) (by simpa using hf) h1
  cases hq : P.info? elem with
  | none => simp [hq] at hs
  | some i =>
    have hi : i.size = k := by simpa [hq] using hs
    simp [Builtin.copy_, run_underlying hu, Builtin.lenOf, Builtin.firstCells, sizeOf, typeInfo, hq, hi, hm, ← hn, hl, hst]

/-- What slices.Insert makes of a row. -/
def insL (xs vs : List Value) (i : Nat) : List Value := xs.take i ++ vs ++ xs.drop i
theorem insL_length (xs vs : List Value) (i : Nat) (h : i ≤ xs.length) : (insL xs vs i).length = xs.length + vs.length := by unfold insL; simp; omega
theorem insL_at (xs vs : List Value) (i j : Nat) (h : i ≤ xs.length) : (insL xs vs i)[j]? = if j < i then xs[j]? else if j < i + vs.length then vs[j - i]? else xs[j - vs.length]? := by
  unfold insL
  have hl : (xs.take i).length = i := by simp; omega
  by_cases h1 : j < i
  · rw [if_pos h1, List.append_assoc, List.getElem?_append_left (by omega), List.getElem?_take, if_pos h1]
  · rw [if_neg h1]
    by_cases h2 : j < i + vs.length
    · rw [if_pos h2, List.append_assoc, List.getElem?_append_right (by omega), hl, List.getElem?_append_left (by omega)]
    · rw [if_neg h2, List.getElem?_append_right (by simp; omega), List.getElem?_drop]
      congr 1
      simp
      omega

/-- The row behind an insertion in place: first what stood from i on goes k cells up, then vs goes in. -/
theorem Arr.shift {w w0 : World} {g e k n c i : Nat} {xs vs : List Value} (h : Arr w g e k n c xs) (hw : w0 = w ∨ w0 = w.drew) (hi : i ≤ n) (hroom : n < c) (hv : vs.length = k) (h1 : ∀ v ∈ vs, v.oneCell' = true) (W : World) (hW : ∀ p, W.cell? p = ((w0.setCells g ((i + 1) * k) (xs.drop (i * k))).setCells g (i * k) vs).cell? p) (hF : ∀ p, W.frozen? p = w.frozen? p) (hs : W.shape? g = some (e, c * k)) :
    Arr W g e k (n + 1) c (insL xs vs (i * k)) := by
  have hlen := h.len
  have hik : i * k ≤ xs.length := by rw [hlen]; exact Nat.mul_le_mul_right k hi
  have hcell : ∀ p, w0.cell? p = w.cell? p := by rcases hw with rfl | rfl <;> intro p <;> rfl
  have hck : (n + 1) * k ≤ c * k := Nat.mul_le_mul_right k hroom
  have e1 : (i + 1) * k = i * k + k := by rw [Nat.add_mul, Nat.one_mul]
  have e2 : (n + 1) * k = n * k + k := by rw [Nat.add_mul, Nat.one_mul]
  have hd : (xs.drop (i * k)).length = n * k - i * k := by rw [List.length_drop, hlen]
  have hA : ∀ j, j < c * k → (w0.cell? ⟨g, j, none⟩).isSome = true := fun j hj => by rw [hcell]; exact h.room j hj
  have hB : ∀ j, j < c * k → ((w0.setCells g ((i + 1) * k) (xs.drop (i * k))).cell? ⟨g, j, none⟩).isSome = true := fun j hj => has_setCells _ _ _ _ _ _ (hA j hj)
  refine ⟨fun j v hj => ?_, fun j hj => by rw [hW]; exact has_setCells _ _ _ _ _ _ (hB j hj), fun j => (hF _).trans (h.free j), hs, by rw [insL_length _ _ _ hik, hlen, hv, e2], by omega, h.cm, fun v hv' => ?_⟩
  · rw [hW]
    rw [insL_at _ _ _ _ hik, hv] at hj
    by_cases c1 : j < i * k
    · rw [if_pos c1] at hj
      rw [World.cell?_setCells_out g vs _ _ ⟨g, j, none⟩ (fun _ _ => Or.inl c1), World.cell?_setCells_out g _ _ _ ⟨g, j, none⟩ (fun _ _ => Or.inl (by show j < _; omega)), hcell]
      exact h.cell j v hj
    · rw [if_neg c1] at hj
      by_cases c2 : j < i * k + k
      · rw [if_pos c2] at hj
        have := World.cell?_setCells_in g vs (i * k) (w0.setCells g ((i + 1) * k) (xs.drop (i * k))) (fun t ht => hB _ (by omega)) (j - i * k) (by omega)
        rw [show i * k + (j - i * k) = j by omega] at this
        rw [this, List.getElem?_eq_getElem (by omega)] at *
        simpa using hj
      · rw [if_neg c2] at hj
        have hjl : j - k < xs.length := (List.getElem?_eq_some_iff.1 hj).1
        rw [World.cell?_setCells_out g vs _ _ ⟨g, j, none⟩ (fun _ _ => Or.inr (by show _ ≤ j; omega))]
        have := World.cell?_setCells_in g (xs.drop (i * k)) ((i + 1) * k) w0 (fun t ht => hA _ (by omega)) (j - (i * k + k)) (by omega)
        rw [show (i + 1) * k + (j - (i * k + k)) = j by omega] at this
        rw [this, ← List.getElem?_eq_getElem, List.getElem?_drop, show i * k + (j - (i * k + k)) = j - k by omega]
        exact hj
  · unfold insL at hv'
    simp only [List.mem_append] at hv'
    rcases hv' with (h2 | h2) | h2
    · exact h.one v (List.mem_of_mem_take h2)
    · exact h1 v h2
    · exact h.one v (List.mem_of_mem_drop h2)

/-- A new row: what stood ahead of i, then vs, then what stood from i on. -/
theorem Arr.of_grow (w : World) (ROW : Array Value) (e k n c i : Nat) (xs vs : List Value) (hlen : xs.length = n * k) (hi : i ≤ n) (hv : vs.length = k) (hnc : n + 1 ≤ c) (hcm : c ≤ 9223372036854775807) (h1 : ∀ v ∈ xs, v.oneCell' = true) (h2 : ∀ v ∈ vs, v.oneCell' = true) (hR : ROW.size = c * k) (hpre : ∀ j, j < i * k → ROW[j]? = xs[j]?)
    (W : World) (hW : ∀ p, W.cell? p = (((w.alloc (.cells ROW e)).setCells w.heap.size (i * k) vs).setCells w.heap.size ((i + 1) * k) (xs.drop (i * k))).cell? p) (hF : ∀ j, W.frozen? ⟨w.heap.size, j, none⟩ = false) (hs : W.shape? w.heap.size = some (e, c * k)) :
    Arr W w.heap.size e k (n + 1) c (insL xs vs (i * k)) := by
  have hik : i * k ≤ xs.length := by rw [hlen]; exact Nat.mul_le_mul_right k hi
  have hck : (n + 1) * k ≤ c * k := Nat.mul_le_mul_right k hnc
  have e1 : (i + 1) * k = i * k + k := by rw [Nat.add_mul, Nat.one_mul]
  have e2 : (n + 1) * k = n * k + k := by rw [Nat.add_mul, Nat.one_mul]
  have hd : (xs.drop (i * k)).length = n * k - i * k := by rw [List.length_drop, hlen]
  have hcell : ∀ j, (w.alloc (.cells ROW e)).cell? ⟨w.heap.size, j, none⟩ = ROW[j]? := fun j => cell_of_row _ _ _ _ _ _ (heap_alloc_new _ _)
  have hA : ∀ j, j < c * k → ((w.alloc (.cells ROW e)).cell? ⟨w.heap.size, j, none⟩).isSome = true := fun j hj => by rw [hcell, Array.getElem?_eq_getElem (by omega)]; rfl
  have hB : ∀ j, j < c * k → (((w.alloc (.cells ROW e)).setCells w.heap.size (i * k) vs).cell? ⟨w.heap.size, j, none⟩).isSome = true := fun j hj => has_setCells _ _ _ _ _ _ (hA j hj)
  refine ⟨fun j v hj => ?_, fun j hj => by rw [hW]; exact has_setCells _ _ _ _ _ _ (hB j hj), hF, hs, by rw [insL_length _ _ _ hik, hlen, hv, e2], hnc, hcm, fun v hv' => ?_⟩
  · rw [hW]
    rw [insL_at _ _ _ _ hik, hv] at hj
    by_cases c1 : j < i * k
    · rw [if_pos c1] at hj
      rw [World.cell?_setCells_out _ _ _ _ ⟨w.heap.size, j, none⟩ (fun _ _ => Or.inl (by show j < _; omega)), World.cell?_setCells_out _ _ _ _ ⟨w.heap.size, j, none⟩ (fun _ _ => Or.inl c1), hcell, hpre j c1]
      exact hj
    · rw [if_neg c1] at hj
      by_cases c2 : j < i * k + k
      · rw [if_pos c2] at hj
        rw [World.cell?_setCells_out _ _ _ _ ⟨w.heap.size, j, none⟩ (fun _ _ => Or.inl (by show j < _; omega))]
        have := World.cell?_setCells_in w.heap.size vs (i * k) (w.alloc (.cells ROW e)) (fun t ht => hA _ (by omega)) (j - i * k) (by omega)
        rw [show i * k + (j - i * k) = j by omega] at this
        rw [this, ← List.getElem?_eq_getElem]
        exact hj
      · rw [if_neg c2] at hj
        have hjl : j - k < xs.length := (List.getElem?_eq_some_iff.1 hj).1
        have := World.cell?_setCells_in w.heap.size (xs.drop (i * k)) ((i + 1) * k) ((w.alloc (.cells ROW e)).setCells w.heap.size (i * k) vs) (fun t ht => hB _ (by omega)) (j - (i * k + k)) (by omega)
        rw [show (i + 1) * k + (j - (i * k + k)) = j by omega] at this
        rw [this, ← List.getElem?_eq_getElem, List.getElem?_drop, show i * k + (j - (i * k + k)) = j - k by omega]
        exact hj
  · unfold insL at hv'
    simp only [List.mem_append] at hv'
    rcases hv' with (h | h) | h
    · exact h1 v (List.mem_of_mem_take h)
    · exact h2 v h
    · exact h1 v (List.mem_of_mem_drop h)
theorem zeroCells_size (z : Array Value) (m : Nat) : (Builtin.zeroCells z m).size = m * z.size := by simp [Builtin.zeroCells]
end Go.Proofs.YbulkdxqmGreatFmt
