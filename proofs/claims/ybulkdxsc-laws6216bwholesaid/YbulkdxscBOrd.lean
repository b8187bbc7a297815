/- A region that draws its order and only makes memory: one typing of its slots serves every order. -/
import Derived.Orders
import Derived.Below
import Derived.RegionTactic
namespace Go.Proofs.Ybulkdxsc
set_option linter.unusedVariables false
open Go.RowKit

/-- How many operations have not come up. -/
def unl (l : Array Bool) : Nat := l.toList.countP fun b => !b

theorem countP_set : ∀ (l : List Bool) (i : Nat), l[i]? = some false → (l.set i true).countP (fun b => !b) + 1 = l.countP (fun b => !b)
  | [], i, h => by simp at h
  | b :: l, 0, h => by
    simp at h
    subst h
    simp
  | b :: l, i + 1, h => by
    have := countP_set l i (by simpa using h)
    simp only [List.set_cons_succ, List.countP_cons]
    omega

theorem unl_set {l : Array Bool} {i : Nat} (h : l.getD i true = false) : unl (l.setIfInBounds i true) + 1 = unl l := by
  unfold unl
  have hi : l.toList[i]? = some false := by
    rw [Array.getElem?_toList]
    cases hh : l[i]? with
    | none => simp [Array.getD_eq_getD_getElem?, hh] at h
    | some b => simp [Array.getD_eq_getD_getElem?, hh] at h; rw [h]
  rw [Array.toList_setIfInBounds]
  exact countP_set _ _ hi

section
variable {P : Program} {ops : Array Oper} {Q : Exit → Act → World → Prop} {md : Region.Mode}

theorem wpAny_inv (I : Array Bool → Act → World → Prop) (step : ∀ l a w i, I l a w → i ∈ Region.ready md ops l → wpOp P ops Q i (I (l.setIfInBounds i true)) a w)
    (fin : ∀ l a w, I l a w → Region.ready md ops l = [] → Q .normal a w) : ∀ fuel l a w, unl l ≤ fuel → I l a w → wpAny P md ops Q fuel l a w
  | 0, l, a, w, hf, hI => by
    have hr : Region.ready md ops l = [] := by
      rw [List.eq_nil_iff_forall_not_mem]
      intro j hj
      have := unl_set (mem_ready.1 hj).1
      omega
    exact ⟨hr, fin l a w hI hr⟩
  | fuel + 1, l, a, w, hf, hI => by
    refine ⟨fun hr => fin l a w hI hr, fun i hi => ?_⟩
    have := unl_set (mem_ready.1 hi).1
    exact wpOp_mono (fun a' w' h' => wpAny_inv I step fin fuel _ a' w' (by omega) h') (step l a w i hI hi)

theorem getD_in {l : Array Bool} {i : Nat} (hi : i < l.size) : l.getD i true = l.getD i false := by
  simp [Array.getD_eq_getD_getElem?, Array.getElem?_eq_getElem hi]

/-- Where nothing more may come up, all has come up. -/
theorem all_listed {l : Array Bool} (hsz : l.size = ops.size) (hlt : ∀ (i : Nat) (o : Oper), ops[i]? = some o → ∀ e ∈ o.after, e.on < i) (hr : Region.ready md ops l = []) : ∀ i, i < ops.size → l.getD i false = true := by
  intro i
  induction i using Nat.strongRecOn with
  | _ i ih =>
    intro hi
    rw [← getD_in (by omega)]
    cases h : l.getD i true with
    | true => rfl
    | false =>
      exfalso
      have ho : ops[i]? = some ops[i] := Array.getElem?_eq_getElem hi
      have : i ∈ Region.ready md ops l := mem_ready.2 ⟨h, _, ho, fun e he _ => by
        have hlt' := hlt i _ ho e he
        exact ih e.on hlt' (by omega)⟩
      rw [hr] at this
      cases this

/-- What is written by no operation. -/
def Kept (ops : Array Oper) (s : Nat) : Prop := ∀ (i : Nat) (o : Oper), ops[i]? = some o → o.dst ≠ some s

structure OrdInv (ops : Array Oper) (T : Nat → Value → World → Prop) (a0 : Act) (w0 : World) (l : Array Bool) (a : Act) (w : World) : Prop where
  lsz : l.size = ops.size
  size : a.tmps.size = a0.tmps.size
  defers : a.defers = a0.defers
  bel : Below w0.heap.size w0 w
  keep : ∀ s, Kept ops s → a.eval (.tmp s) = a0.eval (.tmp s)
  typed : ∀ (i : Nat) (o : Oper) (d : Nat), ops[i]? = some o → o.dst = some d → l.getD i false = true → T d (a.eval (.tmp d)) w

theorem eval_put_same {a : Act} {d : Nat} {v : Value} (hd : d < a.tmps.size) : (a.put (some d) v).eval (.tmp d) = v := by
  simp [Act.eval, Act.put, hd]

/-- THE RULE. T: what each slot holds once its operation has come up; it lasts while the memory only grows. 'good': each operation, where what it waits for has come up. -/
theorem wpAny_typed (T : Nat → Value → World → Prop) (a0 : Act) (w0 : World)
    (mono : ∀ s v (w w' : World), Below w.heap.size w w' → T s v w → T s v w')
    (hlt : ∀ (i : Nat) (o : Oper), ops[i]? = some o → ∀ e ∈ o.after, e.on < i)
    (hdst : ∀ (i : Nat) (o : Oper), ops[i]? = some o → ∃ d, o.dst = some d ∧ d < a0.tmps.size ∧ o.guard = none)
    (hone : ∀ (i j : Nat) (o o' : Oper), ops[i]? = some o → ops[j]? = some o' → o.dst = o'.dst → i = j)
    (good : ∀ (i : Nat) (o : Oper), ops[i]? = some o → ∀ (d : Nat), o.dst = some d → ∀ (a : Act) (w : World), Below w0.heap.size w0 w → (∀ s, Kept ops s → a.eval (.tmp s) = a0.eval (.tmp s)) →
      (∀ e ∈ o.after, Region.binds md e = true → ∀ (o' : Oper) (d' : Nat), ops[e.on]? = some o' → o'.dst = some d' → T d' (a.eval (.tmp d')) w) →
      ∀ K : Act → World → Prop, (∀ v w', Below w.heap.size w w' → T d v w' → K (a.put (some d) v) w') → o.wp P a w K Q)
    (rest : ∀ (a : Act) (w : World), a.tmps.size = a0.tmps.size → a.defers = a0.defers → Below w0.heap.size w0 w → (∀ s, Kept ops s → a.eval (.tmp s) = a0.eval (.tmp s)) →
      (∀ (i : Nat) (o : Oper) (d : Nat), ops[i]? = some o → o.dst = some d → T d (a.eval (.tmp d)) w) → Q .normal a w) :
    wpAny P md ops Q ops.size (Array.replicate ops.size false) a0 w0 := by
  refine wpAny_inv (OrdInv ops T a0 w0) (fun l a w i hI hi => ?_) (fun l a w hI hr => ?_) _ _ _ _ ?_ ⟨by simp, rfl, rfl, Below.refl _ _, fun _ _ => rfl, fun i o d ho hd hl => ?_⟩
  · obtain ⟨hl0, o, ho, hdep⟩ := mem_ready.1 hi
    obtain ⟨d, hd, hdlt, hg⟩ := hdst i o ho
    have hil : i < l.size := by
      have := (Array.getElem?_eq_some_iff.1 ho).1
      have := hI.lsz
      omega
    unfold wpOp
    rw [ho]
    simp only [Region.wanted, hg, if_true]
    refine .inl (good i o ho d hd a w hI.bel hI.keep (fun e he hb o' d' ho' hd' => hI.typed e.on o' d' ho' hd' (hdep e he hb)) _ (fun v w' hb hT => ?_))
    refine ⟨by simpa using hI.lsz, by simpa [Act.put] using hI.size, by simpa [Act.put] using hI.defers, hI.bel.trans (hb.mono hI.bel.size), fun s hs => ?_, fun j o' d' ho' hd' hl => ?_⟩
    · rw [Act.eval_put (fun x hx => by cases hx; intro e; cases e; exact hs i o ho hd)]
      exact hI.keep s hs
    · by_cases hij : i = j
      · subst hij
        rw [ho] at ho'
        cases ho'
        rw [hd] at hd'
        cases hd'
        rw [eval_put_same (by rw [hI.size]; exact hdlt)]
        exact hT
      · have hne : d ≠ d' := fun e => hij (hone i j o o' ho ho' (by rw [hd, hd', e]))
        rw [Act.eval_put (fun x hx => by cases hx; intro e; cases e; exact hne rfl)]
        rw [getD_set_ne false hij] at hl
        exact mono _ _ _ _ hb (hI.typed j o' d' ho' hd' hl)
  · exact rest a w hI.size hI.defers hI.bel hI.keep (fun i o d ho hd => hI.typed i o d ho hd (all_listed hI.lsz hlt hr i (Array.getElem?_eq_some_iff.1 ho).1))
  · unfold unl
    simp [List.countP_replicate]
  · simp [Array.getD_eq_getD_getElem?, Array.getElem?_replicate] at hl
    split at hl <;> simp at hl
end
theorem all_nil {p : Nat → Oper → Prop} : ∀ (i : Nat) (o : Oper), ([] : List Oper)[i]? = some o → p i o := fun i o h => by simp at h
theorem all_cons {p : Nat → Oper → Prop} {x : Oper} {l : List Oper} (h0 : p 0 x) (h1 : ∀ (i : Nat) (o : Oper), l[i]? = some o → p (i + 1) o) : ∀ (i : Nat) (o : Oper), (x :: l)[i]? = some o → p i o
  | 0, o, h => by simp at h; subst h; exact h0
  | i + 1, o, h => h1 i o (by simpa using h)
theorem all_arr {p : Nat → Oper → Prop} {l : List Oper} (h : ∀ (i : Nat) (o : Oper), l[i]? = some o → p i o) : ∀ (i : Nat) (o : Oper), (l.toArray)[i]? = some o → p i o := fun i o ho => h i o (by simpa using ho)

/-- The region's make, as a test: each operation waits for earlier ones, writes one slot of its own, bears no guard. -/
def shapeB (ops : Array Oper) (n : Nat) : Bool :=
  (List.range ops.size).all fun i => match ops[i]? with
    | none => false
    | some o => o.after.toList.all (fun e => decide (e.on < i)) && (match o.dst, o.guard with | some d, none => decide (d < n) && (List.range i).all (fun j => (ops[j]?).map (·.dst) != some (some d)) | _, _ => false)
/-- The slots that o waits for. -/
def waits (ops : Array Oper) (o : Oper) : List Nat := o.after.toList.filterMap fun e => if Region.binds .any e then (ops[e.on]?).bind (·.dst) else none
def keptB (ops : Array Oper) (s : Nat) : Bool := ops.toList.all fun o => o.dst != some s

theorem keptB_spec {ops : Array Oper} {s : Nat} (h : keptB ops s = true) : Kept ops s := fun i o ho e => by
  unfold keptB at h
  rw [List.all_eq_true] at h
  have := h o (by have := Array.mem_of_getElem? ho; simpa using this)
  simp [e] at this

theorem shapeB_spec {ops : Array Oper} {n : Nat} (h : shapeB ops n = true) (i : Nat) (o : Oper) (ho : ops[i]? = some o) :
    (∀ e ∈ o.after, e.on < i) ∧ (∃ d, o.dst = some d ∧ d < n ∧ o.guard = none) ∧ ∀ (j : Nat) (o' : Oper), j < i → ops[j]? = some o' → o'.dst ≠ o.dst := by
  unfold shapeB at h
  rw [List.all_eq_true] at h
  have hi := h i (by rw [List.mem_range]; exact (Array.getElem?_eq_some_iff.1 ho).1)
  rw [ho] at hi
  simp only [Bool.and_eq_true, List.all_eq_true] at hi
  obtain ⟨h1, h2⟩ := hi
  refine ⟨fun e he => by simpa using h1 e (by simpa using he), ?_⟩
  revert h2
  cases hd : o.dst with
  | none => simp
  | some d =>
    cases hg : o.guard with
    | some g => simp
    | none =>
      simp only [Bool.and_eq_true, List.all_eq_true, decide_eq_true_eq]
      rintro ⟨h3, h4⟩
      refine ⟨⟨d, rfl, h3, by first | rfl | trivial⟩, fun j o' hj ho' e => ?_⟩
      have := h4 j (by rw [List.mem_range]; exact hj)
      simp [ho', e] at this

/-- THE RULE, ITS SIDE CONDITIONS AS TESTS. -/
theorem wp_region_typed {P : Program} {ops : Array Oper} {Q : Exit → Act → World → Prop} {id : Nat} {a0 : Act} {w : World} (hm : P.follows .mixedOrders = true) (n : Nat) (hn : a0.tmps.size = n) (shape : shapeB ops n = true) (T : Nat → Value → World → Prop)
    (mono : ∀ s v (w w' : World), Below w.heap.size w w' → T s v w → T s v w')
    (good : ∀ (i : Nat) (o : Oper), ops[i]? = some o → ∀ (d : Nat), o.dst = some d → ∀ (a : Act) (w1 : World), Below w.heap.size w w1 → (∀ s, keptB ops s = true → a.eval (.tmp s) = a0.eval (.tmp s)) →
      (∀ s, (waits ops o).contains s = true → T s (a.eval (.tmp s)) w1) → ∀ K : Act → World → Prop, (∀ v w', Below w1.heap.size w1 w' → T d v w' → K (a.put (some d) v) w') → o.wp P a w1 K Q)
    (rest : ∀ (a : Act) (w1 : World), a.tmps.size = n → a.defers = a0.defers → Below w.heap.size w w1 → (∀ s, keptB ops s = true → a.eval (.tmp s) = a0.eval (.tmp s)) →
      (∀ (i : Nat) (o : Oper) (d : Nat), ops[i]? = some o → o.dst = some d → T d (a.eval (.tmp d)) w1) → Q .normal a w1) :
    (Code.region id ops true).wp P Q a0 w := by
  have sp := shapeB_spec shape
  have b0 : Below w.heap.size w { w with drawn := w.drawn + 1 } := ⟨rfl, rfl, rfl, Nat.le_refl _, fun _ _ => rfl⟩
  refine wp_region_any hm (wpAny_typed T a0 _ mono (fun i o ho => (sp i o ho).1) (fun i o ho => by rw [hn]; exact (sp i o ho).2.1) (fun i j o o' ho ho' e => ?_) (fun i o ho d hd a w1 hb hk hw => ?_) (fun a w1 hs hd hb hk ht => ?_))
  · rcases Nat.lt_trichotomy i j with h | h | h
    · exact absurd e ((sp j o' ho').2.2 i o h ho)
    · exact h
    · exact absurd e.symm ((sp i o ho).2.2 j o' h ho')
  · refine good i o ho d hd a w1 (b0.trans hb) (fun s h => hk s (keptB_spec h)) (fun s h => ?_)
    simp only [waits, List.contains_iff_mem, List.mem_filterMap] at h
    obtain ⟨e, he, h⟩ := h
    split at h
    · rename_i hb'
      obtain ⟨o', ho', hd'⟩ := Option.bind_eq_some_iff.1 h
      exact hw e (by simpa using he) hb' o' s ho' hd'
    · cases h
  · exact rest a w1 (hs.trans hn) hd (b0.trans hb) (fun s h => hk s (keptB_spec h)) ht

/-! Single operations. -/
section
variable {P : Program} {o : Oper} {a : Act} {w : World} {K : Act → World → Prop} {Q : Exit → Act → World → Prop}
theorem wp_move (x : Operand) (ho : o.op = .move x) (h : K (a.put o.dst (a.eval x)) w) : o.wp P a w K Q := by
  unfold Oper.wp execOp
  simp only [ho]
  exact h
theorem wp_assign (x : Operand) (ho : o.op = .assign x) (h : K (a.put o.dst (a.eval x)) w) : o.wp P a w K Q := by
  unfold Oper.wp execOp
  simp only [ho]
  exact h
theorem wp_make (t : TypeId) (x : Operand) (ho : o.op = .makeSlice t x x) (u v : Value) (w' : World) (hx : a.eval x = u) (hr : (Instr.makeSlice t u u).run P w = .ok v w') (h : K (a.put o.dst v) w') : o.wp P a w K Q := by
  unfold Oper.wp execOp
  simp only [ho, hx, Sem.run_bind, hr, Result.andThen_ok]
  exact h
theorem wp_build (t : TypeId) (ps : Array (Nat × Operand)) (ho : o.op = .build t ps) (us : Array (Nat × Value)) (hx : (ps.map fun (i, x) => (i, a.eval x)) = us) (v : Value) (hr : (Instr.build t us).run P w = .ok v w) (h : K (a.put o.dst v) w) : o.wp P a w K Q := by
  unfold Oper.wp execOp
  simp only [ho, hx, Sem.run_bind, hr, Result.andThen_ok]
  exact h
theorem wp_call (f : FuncId) (xs : Array Operand) (ts : Array TypeId) (ho : o.op = .call { callee := .value (.func f), args := xs, argTypes := ts }) (us : Array Value) (hx : xs.map a.eval = us)
    (h : Calls P f us w fun | .returned v, w'' => K (a.put o.dst v) w'' | .panicked chain, w'' => Q (.panic chain) a w'' | .outgrown, _ => LetsOut Q)
    (hr : ∀ ρ : Operand → Value, xs.map ρ = us → (execOp ρ o).run P w = .ok (.enter f us) w) : o.wp P a w K Q := by
  unfold Oper.wp
  rw [hr a.eval hx]
  exact h
theorem wp_box (t : TypeId) (x : Operand) (ho : o.op = .box t x) (cs : Array Value) (hx : a.eval x = .agg cs) (h : K (a.put o.dst (.pointer (some ⟨w.heap.size, 0, none⟩))) (w.alloc (.cells cs t))) : o.wp P a w K Q := by
  unfold Oper.wp execOp
  simp only [ho, hx, Sem.run_bind, Instr.box]
  simp [newVar]
  exact h
theorem wp_len (x : Operand) (t : TypeId) (ho : o.op = .call { callee := .builtin .len, args := #[x], argTypes := #[t] }) (e : TypeId) (hu : P.underlying t = some (.slice e)) (b : Option Addr) (n c : Nat) (hx : a.eval x = .slice b n c) (h : K (a.put o.dst (.int .i64 (n : Int))) w) : o.wp P a w K Q := by
  unfold Oper.wp execOp
  simp [ho, hx, resolve, invoke, builtin, Builtin.len_, goInt, run_underlying hu]
  exact h
end
end Go.Proofs.Ybulkdxsc
