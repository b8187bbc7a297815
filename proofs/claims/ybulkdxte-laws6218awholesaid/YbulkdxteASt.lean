/- LawS6218AWhole: how the memory stands along the law's road. -/
import Derived.Test.YbulkdxteAAny
import Derived.Laws.CopyOwn
import Derived.Deep.WholeRow
namespace Go.Proofs.Ybulkdxte
set_option linter.unusedVariables false
open Go.RowKit

theorem info3s : (Yba.prog.info? 3).map (·.size) = some 1 := by kernel_rfl
theorem info39 : (Yba.prog.info? 39).map (fun i => (i.zero, i.size, i.bytes)) = some (some .nilIface, 1, 16) := by kernel_rfl

theorem run_copy_made (w0 : World) (m cb co cap : Nat) (cs : List Int) (hm : cs.length = m) (hcb : cb < w0.heap.size) (hsrc : ∀ j v, cs[j]? = some v → w0.cell? ⟨cb, co + j, none⟩ = some (.int .i64 v)) :
    (Builtin.copy_ #[23, 23] 3 #[.slice (some ⟨w0.heap.size, 0, none⟩) m m, .slice (some ⟨cb, co, none⟩) m cap]).run Yba.prog (w0.alloc (.cells (madeCells #[.int .i64 0] m) 3)) = .ok (.int .i64 m) (w0.alloc (.cells (cs.map fun x => Value.int .i64 x).toArray 3)) := by
  have hadd : ∀ j, (⟨cb, co, none⟩ : Addr).add j = ⟨cb, co + j, none⟩ := fun j => by unfold Addr.add; split <;> simp_all
  have hsz : (madeCells #[Value.int .i64 0] m).size = m := by simp [madeCells]
  rw [run_copy_row (P := Yba.prog) (w0.alloc (.cells (madeCells #[.int .i64 0] m) 3)) 23 23 3 3 w0.heap.size 0 m m ⟨cb, co, none⟩ m cap (madeCells #[.int .i64 0] m) 3 (cs.map fun x => Value.int .i64 x) Yba.underlying23 info3s (heap_alloc_last _ _) (by simp [hm]) (fun j v hj => ?_) (by simp [hsz, hm]) (ints_oneCell .i64 cs)]
  · have e : ((madeCells #[Value.int .i64 0] m).toList.take 0 ++ cs.map (fun x => Value.int .i64 x) ++ (madeCells #[Value.int .i64 0] m).toList.drop (0 + (cs.map fun x => Value.int .i64 x).length)).toArray = (cs.map fun x => Value.int .i64 x).toArray := by
      rw [List.drop_eq_nil_of_le (by simp [hsz, hm])]; simp
    rw [e, World.setRow_alloc_new]
    simp [hm, goInt]
  · simp only [List.getElem?_map, Option.map_eq_some_iff] at hj
    obtain ⟨x, hx, rfl⟩ := hj
    rw [hadd, World.cell?_of_block (Below.heap_alloc w0 _ cb hcb)]
    exact hsrc j x hx

def termF (T i j : Nat) : Value := if j < i then .iface 33 (.pointer (some ⟨T + j, 0, none⟩)) else .nilIface

/-- The world that stands ahead of the first loop. -/
def built (w0 : World) (K n : Nat) (colsv : Value) : World :=
  (((((w0.alloc (.cells #[.pointer none, .slice none 0 0, .slice none 0 0, colsv] 30)).alloc (.cells #[] 3)).alloc (.cells #[.slice (some ⟨K + 1, 0, none⟩) 0 0] 23)).alloc (.cells #[.bool true] 4)).alloc (.cells (madeCells #[.nilIface] n) 39))

structure St1 (w0 wr : World) (K i n : Nat) (ans : List Bool) (colsv : Value) : Prop where
  scp : wr.cell? ⟨K, 3, none⟩ = some colsv
  lg : wr.heap[K + 1]? = some (.cells #[] 3 (0, 0))
  log : wr.heap[K + 2]? = some (.cells #[.slice (some ⟨K + 1, 0, none⟩) 0 0] 23 (0, 0))
  same : wr.heap[K + 3]? = some (.cells #[.bool true] 4 (0, 0))
  row : wr.rowIs (K + 4) 39 n (termF (K + 5) i)
  tm : ∀ j, j < i → ∃ b, ans[j]? = some b ∧ wr.heap[K + 5 + j]? = some (.cells #[.bool b, .int .i64 (j : Int), .pointer (some ⟨K, 0, none⟩), .pointer (some ⟨K + 2, 0, none⟩), .pointer (some ⟨K + 3, 0, none⟩)] 37 (0, 0))
  sz : wr.heap.size = K + 5 + i
  bel : Below K w0 wr

theorem St1.start (w0 : World) (K n : Nat) (ans : List Bool) (colsv : Value) (hK : K = w0.heap.size) : St1 w0 (built w0 K n colsv) K 0 n ans colsv := by
  subst hK
  unfold built
  have b : ∀ (w : World) (o : Obj) k, k < w.heap.size → (w.alloc o).heap[k]? = w.heap[k]? := fun w o k h => Below.heap_alloc w o k h
  have s : ∀ (w : World) (o : Obj), (w.alloc o).heap.size = w.heap.size + 1 := fun w o => by simp
  obtain ⟨w1, h1⟩ : ∃ w1, w1 = w0.alloc (.cells #[.pointer none, .slice none 0 0, .slice none 0 0, colsv] 30) := ⟨_, rfl⟩
  have z1 : w1.heap.size = w0.heap.size + 1 := by rw [h1, s]
  have l1 : w1.heap[w0.heap.size]? = some (.cells #[.pointer none, .slice none 0 0, .slice none 0 0, colsv] 30 (0, 0)) := by rw [h1]; exact heap_alloc_last _ _
  have B1 : Below w0.heap.size w0 w1 := by rw [h1]; exact (Below.refl _ _).alloc (Nat.le_refl _) _
  rw [← h1]
  obtain ⟨w2, h2⟩ : ∃ w2, w2 = w1.alloc (.cells #[] 3) := ⟨_, rfl⟩
  have z2 : w2.heap.size = w0.heap.size + 2 := by rw [h2, s, z1]
  have l2 : w2.heap[w0.heap.size + 1]? = some (.cells #[] 3 (0, 0)) := by rw [h2, ← z1]; exact heap_alloc_last _ _
  have B2 : Below (w0.heap.size + 1) w1 w2 := by rw [h2]; exact (Below.refl _ _).alloc (by omega) _
  rw [← h2]
  obtain ⟨w3, h3⟩ : ∃ w3, w3 = w2.alloc (.cells #[.slice (some ⟨w0.heap.size + 1, 0, none⟩) 0 0] 23) := ⟨_, rfl⟩
  have z3 : w3.heap.size = w0.heap.size + 3 := by rw [h3, s, z2]
  have l3 : w3.heap[w0.heap.size + 2]? = some (.cells #[.slice (some ⟨w0.heap.size + 1, 0, none⟩) 0 0] 23 (0, 0)) := by rw [h3, ← z2]; exact heap_alloc_last _ _
  have B3 : Below (w0.heap.size + 2) w2 w3 := by rw [h3]; exact (Below.refl _ _).alloc (by omega) _
  rw [← h3]
  obtain ⟨w4, h4⟩ : ∃ w4, w4 = w3.alloc (.cells #[.bool true] 4) := ⟨_, rfl⟩
  have z4 : w4.heap.size = w0.heap.size + 4 := by rw [h4, s, z3]
  have l4 : w4.heap[w0.heap.size + 3]? = some (.cells #[.bool true] 4 (0, 0)) := by rw [h4, ← z3]; exact heap_alloc_last _ _
  have B4 : Below (w0.heap.size + 3) w3 w4 := by rw [h4]; exact (Below.refl _ _).alloc (by omega) _
  rw [← h4]
  have B5 : Below (w0.heap.size + 4) w4 (w4.alloc (.cells (madeCells #[.nilIface] n) 39)) := (Below.refl _ _).alloc (by omega) _
  have hrow := World.rowIs_made w4 .nilIface n 39
  rw [z4] at hrow
  have e0 := (B5.block w0.heap.size (by omega)).trans ((B4.block w0.heap.size (by omega)).trans ((B3.block w0.heap.size (by omega)).trans ((B2.block w0.heap.size (by omega)).trans l1)))
  refine ⟨?_, (B5.block _ (by omega)).trans ((B4.block _ (by omega)).trans ((B3.block _ (by omega)).trans l2)), (B5.block _ (by omega)).trans ((B4.block _ (by omega)).trans l3), (B5.block _ (by omega)).trans l4, hrow.congr (fun j _ => by simp [termF]), fun j hj => absurd hj (Nat.not_lt_zero _), by rw [s, z4], ?_⟩
  · rw [cell_of_row _ _ _ _ _ _ e0]; rfl
  · exact B1.trans ((B2.mono (by omega)).trans ((B3.mono (by omega)).trans ((B4.mono (by omega)).trans (B5.mono (by omega)))))

theorem St1.step {w0 wr : World} {K i n : Nat} {ans : List Bool} {colsv : Value} {b : Bool} (h : St1 w0 wr K i n ans colsv) (hb : ans[i]? = some b) :
    St1 w0 ((wr.alloc (.cells #[.bool b, .int .i64 (i : Int), .pointer (some ⟨K, 0, none⟩), .pointer (some ⟨K + 2, 0, none⟩), .pointer (some ⟨K + 3, 0, none⟩)] 37)).setCell ⟨K + 4, i, none⟩ (.iface 33 (.pointer (some ⟨wr.heap.size, 0, none⟩)))) K (i + 1) n ans colsv := by
  have hz := h.sz
  obtain ⟨w1, h1⟩ : ∃ w1, w1 = wr.alloc (.cells #[.bool b, .int .i64 (i : Int), .pointer (some ⟨K, 0, none⟩), .pointer (some ⟨K + 2, 0, none⟩), .pointer (some ⟨K + 3, 0, none⟩)] 37) := ⟨_, rfl⟩
  have z1 : w1.heap.size = K + 5 + (i + 1) := by rw [h1]; simp; omega
  have l1 : w1.heap[K + 5 + i]? = some (.cells #[.bool b, .int .i64 (i : Int), .pointer (some ⟨K, 0, none⟩), .pointer (some ⟨K + 2, 0, none⟩), .pointer (some ⟨K + 3, 0, none⟩)] 37 (0, 0)) := by rw [h1, ← hz]; exact heap_alloc_last _ _
  have B1 : Below wr.heap.size wr w1 := by rw [h1]; exact (Below.refl _ _).alloc (Nat.le_refl _) _
  rw [← h1, hz]
  have k : ∀ x, x ≠ K + 4 → x < K + 5 + i → (w1.setCell ⟨K + 4, i, none⟩ (.iface 33 (.pointer (some ⟨K + 5 + i, 0, none⟩)))).heap[x]? = wr.heap[x]? := fun x hx hlt => (Below.heap_setCell _ _ _ _ hx).trans (B1.block x (by omega))
  refine ⟨?_, (k _ (by omega) (by omega)).trans h.lg, (k _ (by omega) (by omega)).trans h.log, (k _ (by omega) (by omega)).trans h.same, ?_, fun j hj => ?_, by simpa using z1, ?_⟩
  · rw [World.cell?_of_block (w := wr) (k K (by omega) (by omega))]; exact h.scp
  · refine ((h.row.of_block (B1.block _ (by omega))).set i _).congr (fun j _ => ?_)
    unfold termF
    by_cases e : j = i
    · subst e; simp
    · by_cases hlt : j < i
      · have : j < i + 1 := by omega
        simp [e, hlt, this]
      · have : ¬ j < i + 1 := by omega
        simp [e, hlt, this]
  · by_cases e : j = i
    · subst e
      exact ⟨b, hb, (Below.heap_setCell _ _ _ _ (by simp; omega)).trans l1⟩
    · obtain ⟨b', hb', hh⟩ := h.tm j (by omega)
      exact ⟨b', hb', (k _ (by omega) (by omega)).trans hh⟩
  · exact (h.bel.trans (B1.mono (by omega))).setCell (by simp) _

theorem St1.terms {w0 wr : World} {K n : Nat} {ans : List Bool} {colsv : Value} (h : St1 w0 wr K n n ans colsv) (hn : n = ans.length) : Terms wr ans (K + 4) (K + 5) K (K + 2) (K + 3) := by
  refine ⟨fun j hj => ?_, fun j b hb => ?_, fun j hj => ?_, fun j hj => ?_, fun j hj => ?_⟩
  · have := h.row.cell (i := j) (by omega)
    rw [this]; unfold termF; rw [if_pos (by omega)]
  · have hj : j < n := by rw [hn]; exact (List.getElem?_eq_some_iff.1 hb).1
    obtain ⟨b', hb', hh⟩ := h.tm j hj
    rw [hb] at hb'; cases hb'
    rw [cell_of_row _ _ _ _ _ _ hh]; rfl
  all_goals
    obtain ⟨b', hb', hh⟩ := h.tm j (by omega)
    rw [cell_of_row _ _ _ _ _ _ hh]; rfl

theorem St1.ask {w0 wr : World} {K n : Nat} {ans : List Bool} {colsv : Value} (h : St1 w0 wr K n n ans colsv) : Ask K wr wr (K + 2) (K + 1) 0 (.slice (some ⟨K + 1, 0, none⟩) 0 0) :=
  ⟨h.log, ⟨rfl, .inr ⟨K + 1, 0, #[], rfl, by omega, h.lg, by omega, by unfold maxLen; omega, rfl, rfl⟩⟩, fun k hk => by cases hk; exact .inl rfl, fun _ _ _ _ => rfl, Below.refl _ _⟩

/-- How it stands behind the asking. -/
structure Fin (w0 w9 : World) (K cnt : Nat) (lx : Option Addr) (lc : Nat) (colsv : Value) : Prop where
  log : w9.cell? ⟨K + 2, 0, none⟩ = some (.slice lx cnt lc)
  logc : ∀ t, t < cnt → ∃ g, lx = some ⟨g, 0, none⟩ ∧ w9.cell? ⟨g, t, none⟩ = some (.int .i64 (t : Int))
  same : w9.cell? ⟨K + 3, 0, none⟩ = some (.bool true)
  scp : w9.cell? ⟨K, 3, none⟩ = some colsv
  bel : Below K w0 w9

theorem Fin.of {w0 wr w9 : World} {K n cnt : Nat} {ans : List Bool} {colsv lv : Value} (h : St1 w0 wr K n n ans colsv) (hA : Ask K wr w9 (K + 2) (K + 1) cnt lv) : ∃ lx lc, Fin w0 w9 K cnt lx lc colsv := by
  have hz := h.sz
  obtain ⟨lx, lc, hlv⟩ : ∃ lx lc, lv = .slice lx cnt lc := by
    rcases hA.own.2 with ⟨rfl, rfl⟩ | ⟨g, cap, cur, rfl, _⟩
    · exact ⟨_, _, rfl⟩
    · exact ⟨_, _, rfl⟩
  subst hlv
  refine ⟨lx, lc, cell_of_one hA.log, fun t ht => ?_, ?_, ?_, h.bel.trans hA.bel⟩
  · obtain ⟨g, cap, hv, _, _⟩ := hA.own.form (by omega)
    cases hv
    refine ⟨g, rfl, ?_⟩
    rw [hA.own.cellAt t (by omega)]
    simp [upTo, ht]
  · rw [World.cell?_of_block (w := wr) (hA.blk (K + 3) (by omega) (by omega) (by omega))]; exact cell_of_one h.same
  · rw [World.cell?_of_block (w := wr) (hA.blk K (by omega) (by omega) (by omega))]; exact h.scp

theorem stops (ans : List Bool) : (∃ J : Nat, ans[J]? = some true ∧ ∀ k, k < J → ans[k]? = some false) ∨ (∀ k, k < ans.length → ans[k]? = some false) := by
  induction ans with
  | nil => exact .inr (fun k hk => by simp at hk)
  | cons b l ih =>
    cases b
    · rcases ih with ⟨J, h1, h2⟩ | h
      · refine .inl ⟨J + 1, by simpa using h1, fun k hk => ?_⟩
        cases k with
        | zero => rfl
        | succ k => simpa using h2 k (by omega)
      · refine .inr (fun k hk => ?_)
        cases k with
        | zero => rfl
        | succ k => simpa using h k (by simpa using hk)
    · exact .inl ⟨0, rfl, fun k hk => by omega⟩
end Go.Proofs.Ybulkdxte
