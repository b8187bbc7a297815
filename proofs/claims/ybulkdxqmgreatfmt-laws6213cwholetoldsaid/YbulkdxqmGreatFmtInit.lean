/- LawS6213CWhole: what the law lays first: the spares, the two queues, the submitter, the negotiator, the map. -/
import Derived.Test.YbulkdxqmGreatFmtStep
namespace Go.Proofs.YbulkdxqmGreatFmt
set_option linter.unusedVariables false
open Go.RowKit

theorem wpList_buildN {P : Program} (w : World) {ops : Array Oper} {rest : List Oper} {o : Oper} {a : Act} {Q : Exit → Act → World → Prop} (hg : o.guard = none) (t : TypeId) (ps : Array (Nat × Operand)) (ho : o.op = .build t ps)
    (us : Array (Nat × Value)) (hx : (ps.map fun (i, x) => (i, a.eval x)) = us) (v : Value) (hrun : (Instr.build t us).run P w = .ok v w) (hK : wpList P ops Q rest (a.put o.dst v) w) : wpList P ops Q (o :: rest) a w := by
  refine wpList_plain hg fun K' hK' => ?_
  unfold Oper.wp execOp
  simp only [ho, Sem.run_bind, hx, hrun, Result.andThen_ok]
  exact hK' _ _ hK

/-- A queue's cells as the program makes it. -/
def queueC (sl spb : Nat) : Array Value := #[.func (.func 4) #[] #[], .int .i64 sl, .bool false, .pointer none, .int .i64 0, .int .i64 0, .int .i64 0, .pointer (some ⟨spb, 0, none⟩)]
def subParts (start : Int) (spb wb : Nat) : List (Nat × Value) := [(17, .agg (queueC 0 spb)), (18, .pointer (some ⟨wb, 0, none⟩)), (3, .int .i64 start), (11, .string { data := #[115] })]
structure SubC (C : Array Value) (start : Int) (spb wb : Nat) : Prop where
  c3 : C[3]? = some (.int .i64 start)
  c4 : C[4]? = some (.int .i64 0)
  q0 : C[17]? = some (.func (.func 4) #[] #[])
  q1 : C[17 + 1]? = some (.int .i64 0)
  q2 : C[17 + 2]? = some (.bool false)
  q3 : C[17 + 3]? = some (.pointer none)
  q4 : C[17 + 4]? = some (.int .i64 0)
  q5 : C[17 + 5]? = some (.int .i64 0)
  q6 : C[17 + 6]? = some (.int .i64 0)
  q7 : C[17 + 7]? = some (.pointer (some ⟨spb, 0, none⟩))
  c25 : C[25]? = some (.pointer (some ⟨wb, 0, none⟩))
  c26 : C[26]? = some (.slice none 0 0)
  c27 : C[27]? = some (.slice none 0 0)
theorem subFacts : ∃ C : Int → Nat → Nat → Array Value, ∀ start spb wb, (∀ w, (Instr.build 51 (subParts start spb wb).toArray).run Ybaz.prog w = .ok (.agg (C start spb wb)) w) ∧ SubC (C start spb wb) start spb wb := by
  refine ⟨fun start spb wb => (Ybaz.prog.built 51 (subParts start spb wb)).getD #[], fun start spb wb => ⟨fun w => ?_, ⟨by kernel_rfl, by kernel_rfl, by kernel_rfl, by kernel_rfl, by kernel_rfl, by kernel_rfl, by kernel_rfl, by kernel_rfl, by kernel_rfl, by kernel_rfl, by kernel_rfl, by kernel_rfl, by kernel_rfl⟩⟩⟩
  have h : (Ybaz.prog.built 51 (subParts start spb wb)).isSome = true := by kernel_rfl
  obtain ⟨cells, hc⟩ := Option.isSome_iff_exists.1 h
  show _ = Result.ok (Value.agg ((Ybaz.prog.built 51 (subParts start spb wb)).getD #[])) w
  rw [hc]
  exact run_build w 51 _ cells hc

theorem negFacts : ∃ C : Array Value, (∀ w, (Instr.build 94 #[]).run Ybaz.prog w = .ok (.agg C) w) ∧ C[24]? = some (.int .i64 0) := by
  refine ⟨(Ybaz.prog.built 94 []).getD #[], fun w => ?_, by kernel_rfl⟩
  have h : (Ybaz.prog.built 94 []).isSome = true := by kernel_rfl
  obtain ⟨cells, hc⟩ := Option.isSome_iff_exists.1 h
  rw [hc]
  exact run_build w 94 _ cells hc

def jobParts (v s : Int) (b : Bool) : List (Nat × Value) := [(4, .int .i64 v), (6, .int .i64 s), (3, .bool b), (5, .string { data := #[115] })]
theorem jobFacts : ∃ C : Int → Int → Bool → Array Value, ∀ v s b, (∀ w, (Instr.build 32 (jobParts v s b).toArray).run Ybaz.prog w = .ok (.agg (C v s b)) w) ∧ JobC (C v s b) v s := by
  refine ⟨fun v s b => (Ybaz.prog.built 32 (jobParts v s b)).getD #[], fun v s b => ⟨fun w => ?_, ⟨by kernel_rfl, by kernel_rfl, by kernel_rfl, ⟨.int .u8 0, by kernel_rfl⟩, by kernel_rfl, by kernel_rfl, by kernel_rfl, by kernel_rfl⟩⟩⟩
  have h : (Ybaz.prog.built 32 (jobParts v s b)).isSome = true := by kernel_rfl
  obtain ⟨cells, hc⟩ := Option.isSome_iff_exists.1 h
  show _ = Result.ok (Value.agg ((Ybaz.prog.built 32 (jobParts v s b)).getD #[])) w
  rw [hc]
  exact run_build w 32 _ cells hc

/-- The world behind the set-up. -/
def laid (w : World) (C N : Array Value) : World :=
  (((((w.alloc (.cells #[] 25)).alloc (.cells #[.slice (some ⟨w.heap.size, 0, none⟩) 0 0] 36)).alloc (.cells (queueC 1 (w.heap.size + 1)) 39)).alloc (.cells C 51)).alloc (.cells N 94)).alloc (.map #[] 0)

theorem laid_at (w : World) (C N : Array Value) : (laid w C N).heap.size = w.heap.size + 6 ∧ (laid w C N).heap[w.heap.size + 1]? = some (.cells #[.slice (some ⟨w.heap.size, 0, none⟩) 0 0] 36 (0, 0)) ∧ (laid w C N).heap[w.heap.size + 2]? = some (.cells (queueC 1 (w.heap.size + 1)) 39 (0, 0)) ∧
    (laid w C N).heap[w.heap.size + 3]? = some (.cells C 51 (0, 0)) ∧ (laid w C N).heap[w.heap.size + 4]? = some (.cells N 94 (0, 0)) := by
  refine ⟨by simp [laid], ?_, ?_, ?_, ?_⟩
  · unfold laid
    rw [heap_alloc_old _ _ (by simp), heap_alloc_old _ _ (by simp), heap_alloc_old _ _ (by simp), heap_alloc_old _ _ (by simp)]
    have := heap_alloc_new (w.alloc (.cells #[] 25)) (.cells #[.slice (some ⟨w.heap.size, 0, none⟩) 0 0] 36)
    simpa using this
  · unfold laid
    rw [heap_alloc_old _ _ (by simp), heap_alloc_old _ _ (by simp), heap_alloc_old _ _ (by simp)]
    have := heap_alloc_new ((w.alloc (.cells #[] 25)).alloc (.cells #[.slice (some ⟨w.heap.size, 0, none⟩) 0 0] 36)) (.cells (queueC 1 (w.heap.size + 1)) 39)
    simpa using this
  · unfold laid
    rw [heap_alloc_old _ _ (by simp), heap_alloc_old _ _ (by simp)]
    have := heap_alloc_new (((w.alloc (.cells #[] 25)).alloc (.cells #[.slice (some ⟨w.heap.size, 0, none⟩) 0 0] 36)).alloc (.cells (queueC 1 (w.heap.size + 1)) 39)) (.cells C 51)
    simpa using this
  · unfold laid
    rw [heap_alloc_old _ _ (by simp)]
    have := heap_alloc_new ((((w.alloc (.cells #[] 25)).alloc (.cells #[.slice (some ⟨w.heap.size, 0, none⟩) 0 0] 36)).alloc (.cells (queueC 1 (w.heap.size + 1)) 39)).alloc (.cells C 51)) (.cells N 94)
    simpa using this

theorem St.start (w : World) (C N : Array Value) (start : Int) (hC : SubC C start (w.heap.size + 1) (w.heap.size + 2)) (hN : N[24]? = some (.int .i64 0)) :
    St w (laid w C N) 0 (fun x => x = w.heap.size + 3 ∨ x = w.heap.size + 2 ∨ x = w.heap.size + 1 ∨ x = w.heap.size + 4) (fun _ => False) [] (fun _ => 0) (fun _ => 0) start 0 (.slice none 0 0) (.slice none 0 0) (.slice none 0 0) [] [] [] := by
  obtain ⟨hz, h1, h2, h3, h4⟩ := laid_at w C N
  have e3 : ∀ t v, C[t]? = some v → (laid w C N).cell? ⟨w.heap.size + 3, t, none⟩ = some v := fun t v h => by rw [cell_of_row _ _ _ _ _ _ h3]; exact h
  have e2 : ∀ t v, (queueC 1 (w.heap.size + 1))[t]? = some v → (laid w C N).cell? ⟨w.heap.size + 2, t, none⟩ = some v := fun t v h => by rw [cell_of_row _ _ _ _ _ _ h2]; exact h
  have nb : ∀ k, (Value.slice none 0 0).ownBlock = some k → False := fun k h => by simp [Value.ownBlock] at h
  have hsub : Sub (laid w C N) (w.heap.size + 3) (w.heap.size + 2) (w.heap.size + 1) (([] : List Nat).length : Int) (fun _ => False) (fun _ => False) (fun _ => False) [] [] [] (fun _ => 0) (fun _ => 0) := by
    refine ⟨⟨⟨51, C, h3⟩, e3 _ _ hC.q0, e3 _ _ hC.q1, e3 _ _ hC.q2, e3 _ _ hC.q4, e3 _ _ hC.q5, ⟨0, e3 _ _ hC.q6⟩, e3 _ _ hC.q7, List.Pairwise.nil, fun x hx => hx.elim, Or.inl ⟨rfl, e3 _ _ hC.q3, fun x hx => hx⟩⟩,
      ⟨⟨39, _, h2⟩, e2 0 _ rfl, e2 1 _ rfl, e2 2 _ rfl, e2 4 _ rfl, e2 5 _ rfl, ⟨0, e2 6 _ rfl⟩, e2 7 _ rfl, List.Pairwise.nil, fun x hx => hx.elim, Or.inl ⟨rfl, e2 3 _ rfl, fun x hx => hx⟩⟩,
      ⟨Or.inl ⟨rfl, e3 _ _ hC.c26, fun x hx => hx⟩⟩, e3 _ _ hC.c25, ⟨_, by rw [cell_of_row _ _ _ _ _ _ h1]; rfl⟩, fun a => Iff.rfl, (fun k hk => by cases hk), fun x hx => hx.elim, fun x hx => hx.elim, fun x hx => hx.elim, ⟨by omega, by omega, by omega⟩, List.Pairwise.nil, (fun p hp => by cases hp), by simp, by simp⟩
  refine ⟨⟨⟨_, _, _, [], [], [], hsub, fun a => Iff.rfl, ⟨fun h => h, fun h => h, fun h => h, by omega, by omega, by omega⟩, Tally.nil, (fun x hx => by rcases hx with h | h | h <;> exact h.elim)⟩, fun x hx => ?_, fun x hx => ?_, by simp, List.nodup_nil, ⟨N, h4⟩, e3 _ _ hC.c3, by rw [cell_of_row _ _ _ _ _ _ h4]; exact hN, (fun k hk => by cases hk), e3 _ _ hC.c4, e3 _ _ hC.c27⟩,
    World.ownsRow_nil _ _ _ _, World.ownsRow_nil _ _ _ _, World.ownsRow_nil _ _ _ _, fun k hk => (nb k hk).elim, fun k hk => (nb k hk).elim, fun k hk => (nb k hk).elim, fun x hx => hx.elim, by omega, ?_, ?_⟩
  · rcases hx with h | h | h | h | h
    · exact Or.inl h
    · exact Or.inr (Or.inl h)
    · exact Or.inr (Or.inr (Or.inl h))
    · exact Or.inr (Or.inr (Or.inr h))
    · cases h
  · rw [hz]; omega
  · have := Seen.made (((((w.alloc (.cells #[] 25)).alloc (.cells #[.slice (some ⟨w.heap.size, 0, none⟩) 0 0] 36)).alloc (.cells (queueC 1 (w.heap.size + 1)) 39)).alloc (.cells C 51)).alloc (.cells N 94))
    simp at this
    exact this.turn (fun v => by simp)
  · exact ((((((Below.refl _ w).alloc (Nat.le_refl _) _).alloc (by simp) _).alloc (by simp; omega) _).alloc (by simp; omega) _).alloc (by simp; omega) _).alloc (by simp; omega) _
end Go.Proofs.YbulkdxqmGreatFmt
