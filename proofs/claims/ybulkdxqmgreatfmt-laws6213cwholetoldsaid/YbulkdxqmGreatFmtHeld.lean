/- LawS6213CWhole: a region that draws its order: a head whose loads are taken first under a condition S on the world, and a tail (its stores) behind which S need not hold; S1 holds throughout. -/
import Derived.OrdersHeld
import Derived.StillTail
namespace Go.Proofs.YbulkdxqmGreatFmt
open Go
set_option linter.unusedVariables false

section
variable {P : Program} {ops : Array Oper} {Q : Exit → Act → World → Prop} {md : Region.Mode} {S S1 : World → Prop} {tl : List Nat}

/-- Whatever order is picked from here on; S holds behind every operation of the head, S1 behind every one. -/
def wpAnyT (P : Program) (md : Region.Mode) (ops : Array Oper) (Q : Exit → Act → World → Prop) (S S1 : World → Prop) (tl : List Nat) : Nat → Array Bool → Act → World → Prop
  | 0, listed, a, w => Region.ready md ops listed = [] ∧ Q .normal a w
  | fuel + 1, listed, a, w =>
    (Region.ready md ops listed = [] → Q .normal a w) ∧
    ∀ i ∈ Region.ready md ops listed, wpOp P ops Q i (fun a' w' => ((tl.contains i = false → S w') ∧ S1 w') ∧ wpAnyT P md ops Q S S1 tl fuel (listed.setIfInBounds i true) a' w') a w

theorem wpAny_of_T : ∀ (fuel : Nat) (listed : Array Bool) (a : Act) (w : World), wpAnyT P md ops Q S S1 tl fuel listed a w → wpAny P md ops Q fuel listed a w
  | 0, _, _, _, h => h
  | fuel + 1, _, _, _, h => ⟨h.1, fun i hi => wpOp_mono (fun a' w' h' => wpAny_of_T fuel _ a' w' h'.2) (h.2 i hi)⟩

/-- t waits for i, by a chain of at most f. -/
def reach (md : Region.Mode) (ops : Array Oper) : Nat → Nat → Nat → Bool
  | 0, _, _ => false
  | f + 1, t, i => (List.range ops.size).any fun k => Region.waitsFor md ops t k && (k == i || reach md ops f k i)

/-- Who has come up has come up behind those for which it waits. -/
def Closed (md : Region.Mode) (ops : Array Oper) (listed : Array Bool) : Prop := ∀ k ok, listed.getD k false = true → ops[k]? = some ok → ∀ e ∈ ok.after, Region.binds md e = true → listed.getD e.on false = true
def closedB (md : Region.Mode) (ops : Array Oper) (listed : Array Bool) : Bool := (List.range ops.size).all fun k => match ops[k]? with | some ok => !(listed.getD k false) || ok.after.all fun e => !(Region.binds md e) || listed.getD e.on false | none => true
theorem closed_of {listed : Array Bool} (h : closedB md ops listed = true) : Closed md ops listed := fun k ok hk hok e he hb => by
  have hks : k < ops.size := (Array.getElem?_eq_some_iff.1 hok).1
  have h1 := List.all_eq_true.1 h k (List.mem_range.2 hks)
  simp only [hok, hk, Bool.not_true, Bool.false_or] at h1
  have h2 := Array.all_eq_true_iff_forall_mem.1 h1 e he
  simpa [hb] using h2

theorem getD_of_ready {listed : Array Bool} {j : Nat} {oj : Oper} (hj : j ∈ Region.ready md ops listed) (hoj : ops[j]? = some oj) : ∀ e ∈ oj.after, Region.binds md e = true → listed.getD e.on false = true := fun e he hb => by
  obtain ⟨_, oj', hoj', hall⟩ := mem_ready.1 hj
  rw [hoj] at hoj'
  obtain rfl := Option.some.inj hoj'
  have h3 := hall e he hb
  rcases Nat.lt_or_ge e.on listed.size with h' | h'
  · simpa [h'] using h3
  · simp [Array.getElem?_eq_none h'] at h3

theorem reach_listed {listed : Array Bool} (hc : Closed md ops listed) {i : Nat} : ∀ (f k : Nat), listed.getD k false = true → reach md ops f k i = true → listed.getD i false = true
  | 0, _, _, h => by cases h
  | f + 1, k, hk, h => by
    obtain ⟨m, _, hm⟩ := List.any_eq_true.1 h
    rw [Bool.and_eq_true, Bool.or_eq_true] at hm
    obtain ⟨ok, hok, e, he, hb, hon⟩ := Region.waitsFor_spec hm.1
    have hml := hc k ok hk hok e he hb
    rw [hon] at hml
    rcases hm.2 with h1 | h1
    · have : m = i := by simpa using h1
      subst this; exact hml
    · exact reach_listed hc f m hml h1

theorem reach_ready {listed : Array Bool} (hc : Closed md ops listed) {i j f : Nat} (hj : j ∈ Region.ready md ops listed) (h : reach md ops f j i = true) : listed.getD i false = true := by
  cases f with
  | zero => cases h
  | succ f =>
    obtain ⟨m, _, hm⟩ := List.any_eq_true.1 h
    rw [Bool.and_eq_true, Bool.or_eq_true] at hm
    obtain ⟨oj, hoj, e, he, hb, hon⟩ := Region.waitsFor_spec hm.1
    have hml := getD_of_ready hj hoj e he hb
    rw [hon] at hml
    rcases hm.2 with h1 | h1
    · have : m = i := by simpa using h1
      subst this; exact hml
    · exact reach_listed hc f m hml h1

theorem ready_unlisted {listed : Array Bool} {i : Nat} (hi : i ∈ Region.ready md ops listed) (hl : listed.getD i false = true) : False := by
  have h0 := (mem_ready.1 hi).1
  rcases Nat.lt_or_ge i listed.size with h' | h'
  · simp [h'] at h0 hl; rw [h0] at hl; cases hl
  · simp [h'] at hl

theorem Closed.set {listed : Array Bool} (hc : Closed md ops listed) {j : Nat} (hj : j ∈ Region.ready md ops listed) : Closed md ops (listed.setIfInBounds j true) := fun k ok hk hok e he hb => by
  have up : ∀ x, listed.getD x false = true → (listed.setIfInBounds j true).getD x false = true := fun x hx => by
    by_cases e : j = x
    · subst e
      rcases Nat.lt_or_ge j listed.size with h' | h'
      · simp [h']
      · simp [h'] at hx
    · rw [getD_set_ne false e]; exact hx
  by_cases ejk : j = k
  · subst ejk; exact up _ (getD_of_ready hj hok e he hb)
  · rw [getD_set_ne false ejk] at hk
    exact up _ (hc k ok hk hok e he hb)

/-- One of the head may be taken first: the tail waits for it. -/
theorem wpAnyT_first {i : Nat} {oi : Oper} {v : Value} (hi : ops[i]? = some oi) (hsel : ∀ (j : Nat) (o : Oper) cs b, ops[j]? = some o → o.op ≠ .select cs b)
    (hQ : ∀ c a w, Q (.panic c) (a.put oi.dst v) w → Q (.panic c) a w) :
    ∀ (fuel : Nat) (listed : Array Bool) (a : Act) (w : World),
      (∀ j oj, ops[j]? = some oj → j ≠ i → listed.getD j true = false → (∀ e ∈ oj.after, Region.binds md e = true → e.on ≠ i) → oi.apart ops oj = true) →
      (∀ t, tl.contains t = true → listed.getD t false = true ∨ reach md ops 12 t i = true) → Closed md ops listed →
      i ∈ Region.ready md ops listed → YieldsIf P ops S oi v a → S w → S1 w →
      wpAnyT P md ops Q S S1 tl fuel (listed.setIfInBounds i true) (a.put oi.dst v) w → wpAnyT P md ops Q S S1 tl (fuel + 1) listed a w := by
  intro fuel
  induction fuel with
  | zero =>
    intro listed a w _ _ _ hr hy hS hS1 H
    refine ⟨fun h => (by rw [h] at hr; cases hr), fun j hj => ?_⟩
    by_cases hji : j = i
    · subst hji; exact hy.wpOp hi hS ⟨⟨fun _ => hS, hS1⟩, H⟩
    · have := ready_mono hj hji
      rw [H.1] at this
      cases this
  | succ fuel ih =>
    intro listed a w hfree ht hc hr hy hS hS1 H
    refine ⟨fun h => (by rw [h] at hr; cases hr), fun j hj => ?_⟩
    by_cases hji : j = i
    · subst hji; exact hy.wpOp hi hS ⟨⟨fun _ => hS, hS1⟩, H⟩
    · have hjn : tl.contains j = false := by
        cases hb : tl.contains j with
        | false => rfl
        | true =>
          exfalso
          rcases ht j hb with h1 | h1
          · exact ready_unlisted hj h1
          · exact ready_unlisted hr (reach_ready hc hj h1)
      have h1 := H.2 j (ready_mono hj hji)
      obtain ⟨hjun, oj, hoj, hall⟩ := mem_ready.1 hj
      have hnot : ∀ e ∈ oj.after, Region.binds md e = true → e.on ≠ i := fun e he hb heq => by
        have h1 := hall e he hb
        have h0 := (mem_ready.1 hr).1
        rw [heq] at h1
        rcases Nat.lt_or_ge i listed.size with h' | h'
        · simp [h'] at h0 h1; rw [h0] at h1; cases h1
        · simp [Array.getElem?_eq_none h'] at h1
      have h2 := wpOp_putIf hoj (hfree j oj hoj hji hjun hnot) (fun cs b => hsel i oi cs b hi) (fun cs b => hsel j oj cs b hoj) hQ hy h1
      have hfree' : ∀ k ok, ops[k]? = some ok → k ≠ i → (listed.setIfInBounds j true).getD k true = false →
          (∀ e ∈ ok.after, Region.binds md e = true → e.on ≠ i) → oi.apart ops ok = true := fun k ok hk hki hun hno => by
        refine hfree k ok hk hki ?_ hno
        by_cases hjk : j = k
        · subst hjk; exact hjun
        · rw [getD_set_ne true hjk] at hun; exact hun
      have ht' : ∀ t, tl.contains t = true → (listed.setIfInBounds j true).getD t false = true ∨ reach md ops 12 t i = true := fun t h => by
        rcases ht t h with h1 | h1
        · left
          by_cases e : j = t
          · subst e
            rcases Nat.lt_or_ge j listed.size with h' | h'
            · simp [h']
            · simp [h'] at h1
          · rw [getD_set_ne false e]; exact h1
        · exact Or.inr h1
      refine wpOp_mono (fun a' w' h3 => ⟨h3.2.1, ih (listed.setIfInBounds j true) a' w' hfree' ht' (hc.set hj) (ready_mono hr (Ne.symm hji)) h3.1 (h3.2.1.1 hjn) h3.2.1.2 ?_⟩) h2
      rw [Array.setIfInBounds_comm _ _ hji]
      exact h3.2.2

/-- One of the tail may be taken first where S1 alone gives what it yields. -/
theorem wpAnyT_first1 {i : Nat} {oi : Oper} {v : Value} (hit : tl.contains i = true) (hi : ops[i]? = some oi) (hsel : ∀ (j : Nat) (o : Oper) cs b, ops[j]? = some o → o.op ≠ .select cs b)
    (hQ : ∀ c a w, Q (.panic c) (a.put oi.dst v) w → Q (.panic c) a w) :
    ∀ (fuel : Nat) (listed : Array Bool) (a : Act) (w : World),
      (∀ j oj, ops[j]? = some oj → j ≠ i → listed.getD j true = false → (∀ e ∈ oj.after, Region.binds md e = true → e.on ≠ i) → oi.apart ops oj = true) →
      i ∈ Region.ready md ops listed → YieldsIf P ops S1 oi v a → S1 w →
      wpAnyT P md ops Q S S1 tl fuel (listed.setIfInBounds i true) (a.put oi.dst v) w → wpAnyT P md ops Q S S1 tl (fuel + 1) listed a w := by
  intro fuel
  induction fuel with
  | zero =>
    intro listed a w _ hr hy hS1 H
    refine ⟨fun h => (by rw [h] at hr; cases hr), fun j hj => ?_⟩
    by_cases hji : j = i
    · subst hji; exact hy.wpOp hi hS1 ⟨⟨(fun h => by rw [hit] at h; cases h), hS1⟩, H⟩
    · have := ready_mono hj hji
      rw [H.1] at this
      cases this
  | succ fuel ih =>
    intro listed a w hfree hr hy hS1 H
    refine ⟨fun h => (by rw [h] at hr; cases hr), fun j hj => ?_⟩
    by_cases hji : j = i
    · subst hji; exact hy.wpOp hi hS1 ⟨⟨(fun h => by rw [hit] at h; cases h), hS1⟩, H⟩
    · have h1 := H.2 j (ready_mono hj hji)
      obtain ⟨hjun, oj, hoj, hall⟩ := mem_ready.1 hj
      have hnot : ∀ e ∈ oj.after, Region.binds md e = true → e.on ≠ i := fun e he hb heq => by
        have h1 := hall e he hb
        have h0 := (mem_ready.1 hr).1
        rw [heq] at h1
        rcases Nat.lt_or_ge i listed.size with h' | h'
        · simp [h'] at h0 h1; rw [h0] at h1; cases h1
        · simp [Array.getElem?_eq_none h'] at h1
      have h2 := wpOp_putIf hoj (hfree j oj hoj hji hjun hnot) (fun cs b => hsel i oi cs b hi) (fun cs b => hsel j oj cs b hoj) hQ hy h1
      have hfree' : ∀ k ok, ops[k]? = some ok → k ≠ i → (listed.setIfInBounds j true).getD k true = false →
          (∀ e ∈ ok.after, Region.binds md e = true → e.on ≠ i) → oi.apart ops ok = true := fun k ok hk hki hun hno => by
        refine hfree k ok hk hki ?_ hno
        by_cases hjk : j = k
        · subst hjk; exact hjun
        · rw [getD_set_ne true hjk] at hun; exact hun
      refine wpOp_mono (fun a' w' h3 => ⟨h3.2.1, ih (listed.setIfInBounds j true) a' w' hfree' (ready_mono hr (Ne.symm hji)) h3.1 h3.2.1.2 ?_⟩) h2
      rw [Array.setIfInBounds_comm _ _ hji]
      exact h3.2.2

theorem at_drop {i : Nat} {oi : Oper} {r : List Oper} (hi : ops.toList.drop i = oi :: r) : ops[i]? = some oi := by
  have := congrArg List.head? hi
  rw [List.head?_drop, Array.getElem?_toList] at this
  exact this

def tailB (md : Region.Mode) (ops : Array Oper) (tl : List Nat) (listed : Array Bool) (i : Nat) : Bool := tl.all fun t => listed.getD t false || reach md ops 12 t i

theorem wpAnyT_take {i : Nat} {oi : Oper} {v : Value} {fuel : Nat} {listed : Array Bool} {a : Act} {w : World} {r : List Oper} (hT : (tailB md ops tl listed i && closedB md ops listed && Region.noSelect ops && Region.free md ops listed i && (Region.ready md ops listed).contains i) = true) (hd : ops.toList.drop i = oi :: r)
    (hQ : ∀ c a w, Q (.panic c) (a.put oi.dst v) w → Q (.panic c) a w) (hy : YieldsIf P ops S oi v a) (hS : S w) (hS1 : S1 w)
    (h : wpAnyT P md ops Q S S1 tl fuel (listed.setIfInBounds i true) (a.put oi.dst v) w) : wpAnyT P md ops Q S S1 tl (fuel + 1) listed a w := by
  simp only [Bool.and_eq_true] at hT
  obtain ⟨⟨⟨⟨t1, t2⟩, t3⟩, t4⟩, t5⟩ := hT
  refine wpAnyT_first (at_drop hd) (Region.noSelect_spec t3) hQ fuel listed a w (Region.free_spec (at_drop hd) t4) (fun t ht => ?_) (closed_of t2) (by simpa using t5) hy hS hS1 h
  have := List.all_eq_true.1 t1 t (by simpa using ht)
  simpa using this

theorem wpAnyT_take1 {i : Nat} {oi : Oper} {v : Value} {fuel : Nat} {listed : Array Bool} {a : Act} {w : World} {r : List Oper} (hT : (tl.contains i && Region.noSelect ops && Region.free md ops listed i && (Region.ready md ops listed).contains i) = true) (hd : ops.toList.drop i = oi :: r)
    (hQ : ∀ c a w, Q (.panic c) (a.put oi.dst v) w → Q (.panic c) a w) (hy : YieldsIf P ops S1 oi v a) (hS1 : S1 w)
    (h : wpAnyT P md ops Q S S1 tl fuel (listed.setIfInBounds i true) (a.put oi.dst v) w) : wpAnyT P md ops Q S S1 tl (fuel + 1) listed a w := by
  simp only [Bool.and_eq_true] at hT
  obtain ⟨⟨⟨t1, t3⟩, t4⟩, t5⟩ := hT
  exact wpAnyT_first1 t1 (at_drop hd) (Region.noSelect_spec t3) hQ fuel listed a w (Region.free_spec (at_drop hd) t4) (by simpa using t5) hy hS1 h

/-- A hypothesis that no tactic looks into till it is opened. -/
def Later (p : Prop) : Prop := p
theorem Later.out {p : Prop} (h : Later p) : p := h

theorem wpOp_later {i : Nat} {oi : Oper} {a : Act} {w : World} {K : Act → World → Prop} (hi : ops[i]? = some oi) (hw : Region.wanted oi (yielded ops a.tmps) = true) (h : ∀ K' : Act → World → Prop, Later (∀ a' w', K a' w' → K' a' w') → Oper.wp P oi a w K' Q) : wpOp P ops Q i K a w := by
  unfold wpOp
  simp only [hi, hw, if_true]
  exact .inl (h K (fun _ _ h => h))

/-- One may come up alone. -/
theorem wpAnyT_one {i : Nat} {oi : Oper} {fuel : Nat} {listed : Array Bool} {a : Act} {w : World} {r : List Oper} (hr : Region.ready md ops listed = [i]) (hd : ops.toList.drop i = oi :: r)
    (hw : Region.wanted oi (yielded ops a.tmps) = true) (h : ∀ K : Act → World → Prop, Later (∀ a' w', ((tl.contains i = false → S w') ∧ S1 w') ∧ wpAnyT P md ops Q S S1 tl fuel (listed.setIfInBounds i true) a' w' → K a' w') → Oper.wp P oi a w K Q) : wpAnyT P md ops Q S S1 tl (fuel + 1) listed a w := by
  refine ⟨(fun h0 => by rw [hr] at h0; cases h0), fun j hj => ?_⟩
  rw [hr] at hj
  obtain rfl : j = i := by simpa using hj
  exact wpOp_later (at_drop hd) hw h

/-- Two may come up. -/
theorem wpAnyT_two {i k : Nat} {oi ok : Oper} {fuel : Nat} {listed : Array Bool} {a : Act} {w : World} {r r' : List Oper} (hr : Region.ready md ops listed = [i, k]) (hd : ops.toList.drop i = oi :: r) (hd' : ops.toList.drop k = ok :: r')
    (hw : Region.wanted oi (yielded ops a.tmps) = true) (hw' : Region.wanted ok (yielded ops a.tmps) = true)
    (h : ∀ K : Act → World → Prop, Later (∀ a' w', ((tl.contains i = false → S w') ∧ S1 w') ∧ wpAnyT P md ops Q S S1 tl fuel (listed.setIfInBounds i true) a' w' → K a' w') → Oper.wp P oi a w K Q)
    (h' : ∀ K : Act → World → Prop, Later (∀ a' w', ((tl.contains k = false → S w') ∧ S1 w') ∧ wpAnyT P md ops Q S S1 tl fuel (listed.setIfInBounds k true) a' w' → K a' w') → Oper.wp P ok a w K Q) : wpAnyT P md ops Q S S1 tl (fuel + 1) listed a w := by
  refine ⟨(fun h0 => by rw [hr] at h0; cases h0), fun j hj => ?_⟩
  rw [hr] at hj
  rcases List.mem_cons.1 hj with rfl | hj
  · exact wpOp_later (at_drop hd) hw h
  · obtain rfl : j = k := by simpa using hj
    exact wpOp_later (at_drop hd') hw' h'

theorem wpAnyT_done {listed : Array Bool} {a : Act} {w : World} (hr : Region.ready md ops listed = []) (h : Q .normal a w) : ∀ fuel, wpAnyT P md ops Q S S1 tl fuel listed a w
  | 0 => ⟨hr, h⟩
  | _ + 1 => ⟨fun _ => h, by rw [hr]; simp⟩

theorem wp_region_T {id : Nat} {a : Act} {w : World} (tl : List Nat) (S S1 : World → Prop) (hm : P.follows .mixedOrders = true)
    (h : wpAnyT P .any ops Q S S1 tl ops.size (Array.replicate ops.size false) a w.drew) : (Code.region id ops true).wp P Q a w :=
  wp_region_any hm (wpAny_of_T _ _ _ _ h)
end
end Go.Proofs.YbulkdxqmGreatFmt
