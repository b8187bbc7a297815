/- LawS6213CWhole: zzs6213cids: the IDs of a queue's jobs, in order. -/
import Derived.Test.YbulkdxqmGreatFmtJobs
import Derived.Test.YbulkdxqmGreatFmtHeld
import Derived.Maps.AppendAt
namespace Go.Proofs.YbulkdxqmGreatFmt
set_option linter.unusedVariables false
set_option linter.unusedSimpArgs false
open Go Go.RowKit Go.Shelf
attribute [local go_sem] Oper.semAt_some

section
variable {F : Fence} {n : Nat} {P : Program} {ops : Array Oper} {Q : Exit → Act → World → Prop} {md : Region.Mode}
theorem wpOpIn_later {i : Nat} {oi : Oper} {a : Act} {w : World} {K : Act → World → Prop} (hi : ops[i]? = some oi) (hw : Region.wanted oi (yielded ops a.tmps) = true) (h : ∀ K' : Act → World → Prop, Later (∀ a' w', K a' w' → K' a' w') → Oper.wpIn F n P oi a w K' Q) : wpOpIn F n P ops Q i K a w := by
  unfold wpOpIn
  simp only [hi, hw, if_true]
  exact h K (fun _ _ h => h)
theorem anyIn_one {i : Nat} {oi : Oper} {fuel : Nat} {listed : Array Bool} {a : Act} {w : World} {r : List Oper} (hr : Region.ready md ops listed = [i]) (hd : ops.toList.drop i = oi :: r) (hw : Region.wanted oi (yielded ops a.tmps) = true)
    (h : ∀ K : Act → World → Prop, Later (∀ a' w', wpAnyIn F n P md ops Q fuel (listed.setIfInBounds i true) a' w' → K a' w') → Oper.wpIn F n P oi a w K Q) : wpAnyIn F n P md ops Q (fuel + 1) listed a w := by
  refine ⟨(fun h0 => by rw [hr] at h0; cases h0), fun j hj => ?_⟩
  rw [hr] at hj
  obtain rfl : j = i := by simpa using hj
  exact wpOpIn_later (at_drop hd) hw h
theorem anyIn_two {i k : Nat} {oi ok : Oper} {fuel : Nat} {listed : Array Bool} {a : Act} {w : World} {r r' : List Oper} (hr : Region.ready md ops listed = [i, k]) (hd : ops.toList.drop i = oi :: r) (hd' : ops.toList.drop k = ok :: r') (hw : Region.wanted oi (yielded ops a.tmps) = true) (hw' : Region.wanted ok (yielded ops a.tmps) = true)
    (h : ∀ K : Act → World → Prop, Later (∀ a' w', wpAnyIn F n P md ops Q fuel (listed.setIfInBounds i true) a' w' → K a' w') → Oper.wpIn F n P oi a w K Q)
    (h' : ∀ K : Act → World → Prop, Later (∀ a' w', wpAnyIn F n P md ops Q fuel (listed.setIfInBounds k true) a' w' → K a' w') → Oper.wpIn F n P ok a w K Q) : wpAnyIn F n P md ops Q (fuel + 1) listed a w := by
  refine ⟨(fun h0 => by rw [hr] at h0; cases h0), fun j hj => ?_⟩
  rw [hr] at hj
  rcases List.mem_cons.1 hj with rfl | hj
  · exact wpOpIn_later (at_drop hd) hw h
  · obtain rfl : j = k := by simpa using hj
    exact wpOpIn_later (at_drop hd') hw' h'
theorem anyIn_done {listed : Array Bool} {a : Act} {w : World} (hr : Region.ready md ops listed = []) (h : Q .normal a w) : ∀ fuel, wpAnyIn F n P md ops Q fuel listed a w
  | 0 => ⟨hr, h⟩
  | _ + 1 => ⟨fun _ => h, by rw [hr]; simp⟩
/-- append at an operation, by what it comes to. -/
theorem wpIn_append {o : Oper} {a : Act} {w w' : World} {K : Act → World → Prop} (s x : Operand) (t : TypeId) (ho : o.op = .call { callee := .builtin .append, args := #[s, x], argTypes := #[t, t] }) (v u v' : Value) (hs : a.eval s = v) (hx : a.eval x = u)
    (hr : (Builtin.append_ #[t, t] o.type #[v, u]).run P w = .ok v' w') (h : K (a.put o.dst v') w') : Oper.wpIn F n P o a w K Q := by
  unfold Oper.wpIn
  refine ⟨by simp [Oper.about, ho, resolve, Target.leads, Sem.run_pure], ?_⟩
  rw [Oper.semAt_plain F _ _ (by rw [ho]; intro c hc'; cases hc')]
  simp [execOp, ho, resolve, invoke, builtin, hs, hx, hr, Result.andThen]
  exact h
end

theorem results9 (tmps : Array Value) (w : World) (g : Nat) (v : Value) (hp : tmps.getD 2 undef = .pointer (some ⟨g, 0, none⟩)) (hc : w.cell? ⟨g, 0, none⟩ = some v) : (results Ybaz.f9 tmps).run Ybaz.prog w = .ok v w := by
  have hp' : tmps[2]?.getD undef = .pointer (some ⟨g, 0, none⟩) := by simpa using hp
  have ha := Ybaz.isAgg53 w
  simp [results, hp', asAddr, loadVar, go_sem, hc, ha]

theorem binfo2 : (Ybaz.prog.info? 2).map (fun i => (i.zero, i.size, i.bytes)) = some (some (.int .i64 0), 1, 8) := by kernel_rfl

/-- The body's own blocks: the box, and the row that the box's slice lies in. -/
def MineI (oB : Nat) (Z : Nat) (W : World) : Prop := Z = oB ∨ ∃ v, W.heap[oB]? = some (.cells #[v] 53 (0, 0)) ∧ v.ownBlock = some Z
/-- What has been collected. -/
def Coll (n₀ oB rB : Nat) (id : Nat → Int) (w : World) (pre : List Nat) (W : World) : Prop :=
  (∃ v, Boxed W oB 53 v ∧ W.ownsRow n₀ 2 1 v pre.length (pre.map fun x => .int .i64 (id x))) ∧ Boxed W rB 53 (.slice none 0 0) ∧ Below n₀ w W

set_option maxRecDepth 100000 in
set_option maxHeartbeats 4000000 in
theorem ids9 (qb qo : Nat) (xs : List Nat) (id slots : Nat → Int) (w : World) (hq : QRead w w.heap.size qb qo xs slots) (hid : ∀ k ∈ xs, k < w.heap.size ∧ w.cell? ⟨k, 6, none⟩ = some (.int .i64 (id k))) (hlen : xs.length ≤ 100000) :
    Calls Ybaz.prog 9 #[.pointer (some ⟨qb, qo, none⟩)] w fun e w' => ∃ v, e = .returned v ∧ w'.ownsRow w.heap.size 2 1 v xs.length (xs.map fun x => .int .i64 (id x)) ∧ Below w.heap.size w w' := by
  have hdd : ∀ k : Nat, (Fence.wide.depth.isSome = true → 1 ≤ k) := fun k h => by cases h
  have h9 : Fence.wide.fn 9 := trivial
  have h14 : Fence.wide.fn 14 := trivial
  have h28 : Fence.wide.fn 28 := trivial
  have HQ : Hid (QRead w w.heap.size qb qo xs slots) := hq
  have HID : Hid (∀ k ∈ xs, k < w.heap.size ∧ w.cell? ⟨k, 6, none⟩ = some (.int .i64 (id k))) := hid
  have hj := fun (W : World) => (callsIn_wide (n := 9)).2 (jobs14 qb qo W)
  clear hq hid
  refine (callsIn_wide (n := 10)).1 ?_
  refine callsIn_of_wp_marks Ybaz.func9 rfl h9 ?_ rfl
  simp only [Ybaz.ntmps9, List.size_toArray, List.length_cons, List.length_nil, Nat.reduceAdd, Nat.reduceSub, Array.replicate_succ, Array.replicate_zero, List.push_toArray, List.append_toArray, List.nil_append, List.cons_append]
  gi_wp2_with ((try refine ⟨hdd _, ?_⟩); gi_at_call 14; refine (hj _).mono ?_; rintro e w' ⟨rfl, rfl⟩)
  obtain ⟨n₀, hn₀⟩ : ∃ n₀, n₀ = w.heap.size := ⟨_, rfl⟩
  rw [← hn₀] at HQ HID ⊢
  obtain ⟨w3, hw3⟩ : ∃ w3, w3 = (((w.alloc (.cells #[Value.slice none 0 0] 53)).alloc (.cells #[Value.slice none 0 0] 53)).alloc (.cells #[Value.pointer (some ⟨qb, qo, none⟩)] 37)) := ⟨_, rfl⟩
  rw [← hw3]
  have hz3 : w3.heap.size = n₀ + 3 := by rw [hw3, hn₀]; simp
  have hB3 : Below n₀ w w3 := by rw [hw3, hn₀]; exact (((Below.refl _ w).alloc (Nat.le_refl _) _).alloc (by simp) _).alloc (by simp; omega) _
  have hr3 : Boxed w3 n₀ 53 (.slice none 0 0) := by rw [hw3, hn₀]; exact ((Boxed.new w 53 _).alloc _).alloc _
  have ho3 : Boxed w3 (n₀ + 1) 53 (.slice none 0 0) := by
    have := (Boxed.new (w.alloc (.cells #[Value.slice none 0 0] 53)) 53 (.slice none 0 0)).alloc (.cells #[Value.pointer (some ⟨qb, qo, none⟩)] 37)
    rw [World.size_alloc, ← hn₀] at this
    rw [hw3]; exact this
  have hq3 : Boxed w3 (n₀ + 2) 37 (.pointer (some ⟨qb, qo, none⟩)) := by
    have := Boxed.new ((w.alloc (.cells #[Value.slice none 0 0] 53)).alloc (.cells #[Value.slice none 0 0] 53)) 37 (.pointer (some ⟨qb, qo, none⟩))
    rw [World.size_alloc, World.size_alloc, ← hn₀] at this
    rw [hw3]; exact this
  have HN0 : Hid (n₀ = w.heap.size) := hn₀
  clear hw3 hj hn₀
  -- the box keeps its place
  have keepB : ∀ (W W' : World) (row : Option Nat) (B : Nat) (t : TypeId) (v : Value), Boxed W B t v → W.grownBy W' row → (∀ r, row = some r → ∃ o : Obj, W.heap[r]? = some o ∧ o.isCells = false) → Boxed W' B t v := fun W W' row B t v hb hg hr => hb.kept hg (fun e => by
    obtain ⟨o, ho, hc⟩ := hr B e.symm
    rw [show W.heap[B]? = _ from hb] at ho
    cases ho; cases hc)
  have ownC : OwnFrom w3.heap.size (Coll n₀ (n₀ + 1) n₀ id w) := fun pre A B row hs hg hr => by
    obtain ⟨⟨v, h1, h2⟩, h3, h4⟩ := hs
    have hr' := fun r e => (hr r e).2
    refine ⟨⟨v, keepB _ _ _ _ _ _ h1 hg hr', h2.kept hg ?_⟩, keepB _ _ _ _ _ _ h3 hg hr', h4.trans ⟨hg.os, hg.tape, hg.output, hg.size, fun k hk => hg.block k (Nat.lt_of_lt_of_le (by have := HN0.out; omega) h4.size) (fun e => by have := (hr k e.symm).1; omega)⟩⟩
    rcases h2.2 with ⟨rfl, _⟩ | ⟨g, cap, cur, rfl, hg1, hg2, _⟩
    · exact Or.inl rfl
    · refine Or.inr (fun e => ?_)
      obtain ⟨o, ho, hc⟩ := hr' g e.symm
      rw [hg2] at ho; cases ho; cases hc
  refine range_all xs (gf := 28) (lb := #[.pointer (some ⟨n₀ + 2, 0, none⟩)]) rfl (enters_of Ybaz.func28 (by kernel_rfl) rfl) (fun x => #[.pointer (some ⟨x, 0, none⟩)]) (fun _ => rfl) (KpO (w3.heap.size + 1) n₀ (MineI (n₀ + 1))) ?kt ?kb (Coll n₀ (n₀ + 1) n₀ id w) ownC ⟨⟨_, ho3, World.ownsRow_nil _ _ _ _⟩, hr3, hB3⟩ ?seq ?round ?done
  case kt =>
    intro A B C h k
    refine ⟨h.bel.trans k.bel, fun Z T t hz hm => ?_, fun i o hi h1 h2 => k.oth i o hi (h.oth i o hi h1 h2) h2⟩
    obtain ⟨a1, a2⟩ := h.cel Z T t hz hm
    exact k.cel Z T t a1 a2
  case kb =>
    intro W o o' ho hc
    refine ⟨⟨rfl, rfl, rfl, by simp, fun k hk => World.putObj_heap_other (by omega)⟩, fun Z T t hz hm => ?_, fun i o2 hi h1 h2 => (World.putObj_heap_other hi).trans h1⟩
    have hne : Z ≠ w3.heap.size + 1 := fun e => by subst e; rw [hz] at ho; cases ho; cases hc
    refine ⟨(World.putObj_heap_other hne).trans hz, fun hm' => hm ?_⟩
    rcases hm' with e | ⟨v, h1, h2⟩
    · exact Or.inl e
    · by_cases e1 : n₀ + 1 = w3.heap.size + 1
      · omega
      · exact Or.inr ⟨v, by rwa [World.putObj_heap_other e1] at h1, h2⟩
  case seq =>
    intro J2 W2 hB hsz2 hJI hJ2o hY2 hJ20
    have hIn : ∀ pre W, J2 pre W → ∃ v, Boxed W (n₀ + 1) 53 v ∧ W.ownsRow n₀ 2 1 v pre.length (pre.map fun x => .int .i64 (id x)) := fun pre W h => (hJI pre W h).1
    have hq2 : W2.cell? ⟨n₀ + 2, 0, none⟩ = some (.pointer (some ⟨qb, qo, none⟩)) := (World.cell?_of_block (hB.block (n₀ + 2) (by omega))).trans hq3.cell
    refine jobs28 (w3.heap.size + 1) n₀ qb qo (n₀ + 2) xs slots (MineI (n₀ + 1)) J2 W2 (fun pre Z W W' row hj hm hg hr hm' => hm ?_) (fun pre W Z hj hz hm => ?_) (by omega) hJ2o hY2 (by omega) (HQ.out.below (hB3.trans ⟨hB.os, hB.tape, hB.output, hB.size, fun k hk => hB.block k (by omega)⟩)) hq2 hJ20
    · rcases hm' with e | ⟨v, h1, h2⟩
      · exact Or.inl e
      · obtain ⟨v0, hv0, _⟩ := hIn pre W hj
        have h3 := keepB _ _ _ _ _ _ hv0 hg hr
        rw [show W'.heap[n₀ + 1]? = _ from h3] at h1
        injection h1 with h1; injection h1 with h1 _ _
        have : v0 = v := by simpa using h1
        subst this
        exact Or.inr ⟨v0, hv0, h2⟩
    · obtain ⟨v0, hv0, hrow⟩ := hIn pre W hj
      rcases hm with e | ⟨v, h1, h2⟩
      · have := hv0.lt; omega
      · rw [show W.heap[n₀ + 1]? = _ from hv0] at h1
        injection h1 with h1; injection h1 with h1 _ _
        have : v0 = v := by simpa using h1
        subst this
        rcases hrow.2 with ⟨rfl, _⟩ | ⟨g, cap, cur, rfl, _, hg2, _⟩
        · cases h2
        · have e : g = Z := by simpa [Value.ownBlock] using h2
          have := (Array.getElem?_eq_some_iff.1 hg2).1
          omega
  case round =>
    rintro m l pre x W4 hl ⟨⟨v, hv, hrow⟩, hrB, hB4⟩ hx ⟨r, hr⟩
    gi_wp2
    have hxm : x ∈ xs := hx.subset (by simp)
    have hpl : pre.length + 1 ≤ 100000 := by have := hx.length_le; simp at this; omega
    refine ⟨KeepsFrom.refl _ _, ⟨Below.refl _ _, fun Z T t h1 h2 => ⟨h1, h2⟩, fun k o _ h1 _ => h1⟩, ⟨⟨v, hv, hrow⟩, hrB, hB4⟩, fun o' => ?_⟩
    have hln : ∀ B t u, Boxed W4 B t u → B ≠ l := fun B t u hb e => by subst e; rw [show W4.heap[B]? = _ from hb] at hr; cases hr
    obtain ⟨W6, hW6⟩ : ∃ W6, W6 = W4.putObj l o' := ⟨_, rfl⟩
    rw [← hW6]
    have hv6 : Boxed W6 (n₀ + 1) 53 v := by rw [hW6]; exact (World.putObj_heap_other (hln _ _ _ hv)).trans hv
    have hrow6 : W6.ownsRow n₀ 2 1 v pre.length (pre.map fun x => .int .i64 (id x)) := by rw [hW6]; exact ownsRow_putObj hrow o' hr rfl
    have hrB6 : Boxed W6 n₀ 53 (.slice none 0 0) := by rw [hW6]; exact (World.putObj_heap_other (hln _ _ _ hrB)).trans hrB
    have hB6 : Below n₀ w W6 := by rw [hW6]; exact hB4.trans ⟨rfl, rfl, rfl, by simp, fun k hk => World.putObj_heap_other (by omega)⟩
    have hz6 : n₀ + 2 ≤ W6.heap.size := by have := hv6.lt; omega
    have hidc : W6.cell? ⟨x, 6, none⟩ = some (.int .i64 (id x)) := (hB6.cell (p := ⟨x, 6, none⟩) (HID.out x hxm).1).trans (HID.out x hxm).2
    obtain ⟨i0, hi, hz0, hz1, hz2⟩ := info_parts binfo2
    obtain ⟨tmp, htmp⟩ : ∃ tmp : Obj, tmp = .cells #[.int .i64 (id x)] 2 := ⟨_, rfl⟩
    have hrowA : (W6.alloc tmp).drew.ownsRow n₀ 2 1 v pre.length (pre.map fun x => .int .i64 (id x)) := (hrow6.alloc tmp).kept (w' := (W6.alloc tmp).drew) (row := none) ⟨rfl, rfl, rfl, Nat.le_refl _, fun _ _ _ => rfl⟩ (by cases hvb : v.ownBlock <;> simp)
    obtain ⟨v', w1, hrun, hown', hgrow, hnil, hob⟩ := run_append_own_at (P := Ybaz.prog) (w := (W6.alloc tmp).drew) n₀ 53 53 2 i0 (.int .i64 0) 1 8 Ybaz.underlying53 hi hz0 hz1 hz2 rfl (by decide) v pre.length _ hrowA ⟨W6.heap.size, 0, none⟩ 1 1 [.int .i64 (id x)] rfl
      (fun j u hj => by
        rw [htmp]
        cases j with
        | zero => simp at hj; subst hj; rw [cell_drew]; exact (Boxed.new W6 2 _).cell
        | succ j => simp at hj) (by simp [Value.oneCell']) (by simp only [maxLen]; omega) (by omega) (by simp; omega)
    obtain ⟨g', cap', rfl⟩ := ownsRow_succ hown'
    have hgrow1 : (W6.alloc tmp).grownBy w1 v.ownBlock := ⟨hgrow.os, hgrow.tape, hgrow.output, hgrow.size, hgrow.block⟩
    obtain ⟨hv1, hv2, hr2, hk2, hb2⟩ := hv6.appended (by decide) hrow6 (by omega) (by omega) hown' hgrow1
    have hfin : KeepsFrom w3.heap.size W6 (w1.setCell ⟨n₀ + 1, 0, none⟩ (.slice (some ⟨g', 0, none⟩) (pre.length + 1) cap')) ∧ KpO (w3.heap.size + 1) n₀ (MineI (n₀ + 1)) W6 (w1.setCell ⟨n₀ + 1, 0, none⟩ (.slice (some ⟨g', 0, none⟩) (pre.length + 1) cap')) ∧ Coll n₀ (n₀ + 1) n₀ id w (pre ++ [x]) (w1.setCell ⟨n₀ + 1, 0, none⟩ (.slice (some ⟨g', 0, none⟩) (pre.length + 1) cap')) := by
      refine ⟨hk2.from _, ⟨hb2, fun Z T t hz hm => ?_, fun k o _ h1 h2 => hk2.same k o h1 h2⟩, ⟨_, hv2, ?_⟩, ?_, hB6.trans hb2⟩
      · have hZo : Z ≠ n₀ + 1 := fun e => hm (Or.inl e)
        have hZl : Z < W6.heap.size := (Array.getElem?_eq_some_iff.1 hz).1
        have hZv : some Z ≠ v.ownBlock := fun e => hm (Or.inr ⟨v, hv6, e.symm⟩)
        refine ⟨?_, fun hm' => ?_⟩
        · exact (Below.heap_setCell w1 ⟨n₀ + 1, 0, none⟩ _ Z hZo).trans ((hgrow1.block Z (by simp; omega) hZv).trans ((Below.heap_alloc W6 tmp Z hZl).trans hz))
        · rcases hm' with e | ⟨u, h1, h2⟩
          · exact hZo e
          · rw [show (w1.setCell ⟨n₀ + 1, 0, none⟩ (.slice (some ⟨g', 0, none⟩) (pre.length + 1) cap')).heap[n₀ + 1]? = _ from hv2] at h1
            injection h1 with h1; injection h1 with h1 _ _
            have e : Value.slice (some ⟨g', 0, none⟩) (pre.length + 1) cap' = u := by simpa using h1
            subst e
            rcases hob with h3 | h3
            · exact hZv (h2.symm.trans h3)
            · rw [h2] at h3
              have : Z = (W6.alloc tmp).drew.heap.size := Option.some.inj h3
              have e2 : (W6.alloc tmp).drew.heap.size = W6.heap.size + 1 := World.size_alloc W6 tmp
              omega
      · simpa using hr2
      · have hne : n₀ ≠ n₀ + 1 := by omega
        have hnv : some n₀ ≠ v.ownBlock := hrB6.not_row (by decide) hrow6
        exact (((hrB6.alloc tmp).kept hgrow1 hnv)).other hne _
    have HFIN : Hid (KeepsFrom (n₀ + 3) W6 (w1.setCell ⟨n₀ + 1, 0, none⟩ (.slice (some ⟨g', 0, none⟩) (pre.length + 1) cap')) ∧ KpO (n₀ + 3 + 1) n₀ (MineI (n₀ + 1)) W6 (w1.setCell ⟨n₀ + 1, 0, none⟩ (.slice (some ⟨g', 0, none⟩) (pre.length + 1) cap')) ∧ Coll n₀ (n₀ + 1) n₀ id w (pre ++ [x]) (w1.setCell ⟨n₀ + 1, 0, none⟩ (.slice (some ⟨g', 0, none⟩) (pre.length + 1) cap'))) := by
      have h := hfin
      rw [hz3] at h
      exact h
    rw [htmp] at hrun
    have HRUN : Hid ((Builtin.append_ #[53, 53] 53 #[v, .slice (some ⟨W6.heap.size, 0, none⟩) 1 1]).run Ybaz.prog (W6.alloc (.cells #[.int .i64 (id x)] 2)).drew = .ok (.slice (some ⟨g', 0, none⟩) (pre.length + 1) cap') w1) := hrun
    have hc6 := hv6.cell
    have hc1 := hv1.cell
    have hf1 := hv1.frozen
    have hcA : (W6.alloc (.cells #[.int .i64 (id x)] 2)).cell? ⟨n₀ + 1, 0, none⟩ = some v := (hv6.alloc _).cell
    have hmx : Ybaz.prog.follows .mixedOrders = true := by kernel_rfl
    have hxn : x < n₀ := (HID.out x hxm).1
    clear hfin hrun hgrow hown' hgrow1 hob hnil hrowA hr2 hk2 hb2 hv2 hv1 hW6 hrow6 hrB6 hB6 hv6 hrow hrB hB4 hv hr hln ownC keepB hq3 ho3 hr3 hB3 hi hz0 hz1 hz2 htmp
    gi_wp2
    refine wpIn_region_any hmx ?_
    refine anyIn_two (i := 0) (k := 1) (by kernel_rfl) rfl rfl (by rfl) (by rfl) (fun K hK => ?_) (fun K hK => ?_)
    · gi_wp2
      refine hK.out _ _ ?_
      try simp only [Act.put, List.setIfInBounds_toArray, List.set_cons_zero, List.set_cons_succ]
      clear hK K
      refine anyIn_one (i := 1) (by kernel_rfl) rfl (by rfl) (fun K hK => ?_)
      gi_wp2
      refine hK.out _ _ ?_
      try simp only [Act.put, List.setIfInBounds_toArray, List.set_cons_zero, List.set_cons_succ]
      clear hK K
      refine anyIn_one (i := 2) (by kernel_rfl) rfl (by rfl) (fun K hK => ?_)
      gi_wp2
      refine hK.out _ _ ?_
      try simp only [Act.put, List.setIfInBounds_toArray, List.set_cons_zero, List.set_cons_succ]
      clear hK K
      refine anyIn_one (i := 3) (by kernel_rfl) rfl (by rfl) (fun K hK => ?_)
      gi_wp2
      refine hK.out _ _ ?_
      try simp only [Act.put, List.setIfInBounds_toArray, List.set_cons_zero, List.set_cons_succ]
      clear hK K
      refine anyIn_one (i := 4) (by kernel_rfl) rfl (by rfl) (fun K hK => ?_)
      gi_wp2
      refine hK.out _ _ ?_
      try simp only [Act.put, List.setIfInBounds_toArray, List.set_cons_zero, List.set_cons_succ]
      clear hK K
      refine anyIn_one (i := 5) (by kernel_rfl) rfl (by rfl) (fun K hK => ?_)
      gi_wp2
      refine hK.out _ _ ?_
      try simp only [Act.put, List.setIfInBounds_toArray, List.set_cons_zero, List.set_cons_succ]
      clear hK K
      refine anyIn_one (i := 6) (by kernel_rfl) rfl (by rfl) (fun K hK => ?_)
      refine wpIn_append (.tmp 13) (.tmp 18) 53 rfl v _ _ rfl rfl HRUN.out ?_
      refine hK.out _ _ ?_
      try simp only [Act.put, List.setIfInBounds_toArray, List.set_cons_zero, List.set_cons_succ]
      clear hK K
      refine anyIn_one (i := 7) (by kernel_rfl) rfl (by rfl) (fun K hK => ?_)
      gi_wp2
      refine hK.out _ _ ?_
      try simp only [Act.put, List.setIfInBounds_toArray, List.set_cons_zero, List.set_cons_succ]
      clear hK K
      refine anyIn_done (by kernel_rfl) ?_ _
      try simp only [Act.put, List.setIfInBounds_toArray, List.set_cons_zero, List.set_cons_succ]
      gi_wp2
      exact HFIN.out
    · gi_wp2
      refine hK.out _ _ ?_
      try simp only [Act.put, List.setIfInBounds_toArray, List.set_cons_zero, List.set_cons_succ]
      clear hK K
      refine anyIn_two (i := 0) (k := 2) (by kernel_rfl) rfl rfl (by rfl) (by rfl) (fun K hK => ?_) (fun K hK => ?_)
      · gi_wp2
        refine hK.out _ _ ?_
        try simp only [Act.put, List.setIfInBounds_toArray, List.set_cons_zero, List.set_cons_succ]
        clear hK K
        refine anyIn_one (i := 2) (by kernel_rfl) rfl (by rfl) (fun K hK => ?_)
        gi_wp2
        refine hK.out _ _ ?_
        try simp only [Act.put, List.setIfInBounds_toArray, List.set_cons_zero, List.set_cons_succ]
        clear hK K
        refine anyIn_one (i := 3) (by kernel_rfl) rfl (by rfl) (fun K hK => ?_)
        gi_wp2
        refine hK.out _ _ ?_
        try simp only [Act.put, List.setIfInBounds_toArray, List.set_cons_zero, List.set_cons_succ]
        clear hK K
        refine anyIn_one (i := 4) (by kernel_rfl) rfl (by rfl) (fun K hK => ?_)
        gi_wp2
        refine hK.out _ _ ?_
        try simp only [Act.put, List.setIfInBounds_toArray, List.set_cons_zero, List.set_cons_succ]
        clear hK K
        refine anyIn_one (i := 5) (by kernel_rfl) rfl (by rfl) (fun K hK => ?_)
        gi_wp2
        refine hK.out _ _ ?_
        try simp only [Act.put, List.setIfInBounds_toArray, List.set_cons_zero, List.set_cons_succ]
        clear hK K
        refine anyIn_one (i := 6) (by kernel_rfl) rfl (by rfl) (fun K hK => ?_)
        refine wpIn_append (.tmp 13) (.tmp 18) 53 rfl v _ _ rfl rfl HRUN.out ?_
        refine hK.out _ _ ?_
        try simp only [Act.put, List.setIfInBounds_toArray, List.set_cons_zero, List.set_cons_succ]
        clear hK K
        refine anyIn_one (i := 7) (by kernel_rfl) rfl (by rfl) (fun K hK => ?_)
        gi_wp2
        refine hK.out _ _ ?_
        try simp only [Act.put, List.setIfInBounds_toArray, List.set_cons_zero, List.set_cons_succ]
        clear hK K
        refine anyIn_done (by kernel_rfl) ?_ _
        try simp only [Act.put, List.setIfInBounds_toArray, List.set_cons_zero, List.set_cons_succ]
        gi_wp2
        exact HFIN.out
      · gi_wp2
        refine hK.out _ _ ?_
        try simp only [Act.put, List.setIfInBounds_toArray, List.set_cons_zero, List.set_cons_succ]
        clear hK K
        refine anyIn_two (i := 0) (k := 3) (by kernel_rfl) rfl rfl (by rfl) (by rfl) (fun K hK => ?_) (fun K hK => ?_)
        · gi_wp2
          refine hK.out _ _ ?_
          try simp only [Act.put, List.setIfInBounds_toArray, List.set_cons_zero, List.set_cons_succ]
          clear hK K
          refine anyIn_one (i := 3) (by kernel_rfl) rfl (by rfl) (fun K hK => ?_)
          gi_wp2
          refine hK.out _ _ ?_
          try simp only [Act.put, List.setIfInBounds_toArray, List.set_cons_zero, List.set_cons_succ]
          clear hK K
          refine anyIn_one (i := 4) (by kernel_rfl) rfl (by rfl) (fun K hK => ?_)
          gi_wp2
          refine hK.out _ _ ?_
          try simp only [Act.put, List.setIfInBounds_toArray, List.set_cons_zero, List.set_cons_succ]
          clear hK K
          refine anyIn_one (i := 5) (by kernel_rfl) rfl (by rfl) (fun K hK => ?_)
          gi_wp2
          refine hK.out _ _ ?_
          try simp only [Act.put, List.setIfInBounds_toArray, List.set_cons_zero, List.set_cons_succ]
          clear hK K
          refine anyIn_one (i := 6) (by kernel_rfl) rfl (by rfl) (fun K hK => ?_)
          refine wpIn_append (.tmp 13) (.tmp 18) 53 rfl v _ _ rfl rfl HRUN.out ?_
          refine hK.out _ _ ?_
          try simp only [Act.put, List.setIfInBounds_toArray, List.set_cons_zero, List.set_cons_succ]
          clear hK K
          refine anyIn_one (i := 7) (by kernel_rfl) rfl (by rfl) (fun K hK => ?_)
          gi_wp2
          refine hK.out _ _ ?_
          try simp only [Act.put, List.setIfInBounds_toArray, List.set_cons_zero, List.set_cons_succ]
          clear hK K
          refine anyIn_done (by kernel_rfl) ?_ _
          try simp only [Act.put, List.setIfInBounds_toArray, List.set_cons_zero, List.set_cons_succ]
          gi_wp2
          exact HFIN.out
        · gi_wp2
          refine hK.out _ _ ?_
          try simp only [Act.put, List.setIfInBounds_toArray, List.set_cons_zero, List.set_cons_succ]
          clear hK K
          refine anyIn_two (i := 0) (k := 4) (by kernel_rfl) rfl rfl (by rfl) (by rfl) (fun K hK => ?_) (fun K hK => ?_)
          · gi_wp2
            refine hK.out _ _ ?_
            try simp only [Act.put, List.setIfInBounds_toArray, List.set_cons_zero, List.set_cons_succ]
            clear hK K
            refine anyIn_one (i := 4) (by kernel_rfl) rfl (by rfl) (fun K hK => ?_)
            gi_wp2
            refine hK.out _ _ ?_
            try simp only [Act.put, List.setIfInBounds_toArray, List.set_cons_zero, List.set_cons_succ]
            clear hK K
            refine anyIn_one (i := 5) (by kernel_rfl) rfl (by rfl) (fun K hK => ?_)
            gi_wp2
            refine hK.out _ _ ?_
            try simp only [Act.put, List.setIfInBounds_toArray, List.set_cons_zero, List.set_cons_succ]
            clear hK K
            refine anyIn_one (i := 6) (by kernel_rfl) rfl (by rfl) (fun K hK => ?_)
            refine wpIn_append (.tmp 13) (.tmp 18) 53 rfl v _ _ rfl rfl HRUN.out ?_
            refine hK.out _ _ ?_
            try simp only [Act.put, List.setIfInBounds_toArray, List.set_cons_zero, List.set_cons_succ]
            clear hK K
            refine anyIn_one (i := 7) (by kernel_rfl) rfl (by rfl) (fun K hK => ?_)
            gi_wp2
            refine hK.out _ _ ?_
            try simp only [Act.put, List.setIfInBounds_toArray, List.set_cons_zero, List.set_cons_succ]
            clear hK K
            refine anyIn_done (by kernel_rfl) ?_ _
            try simp only [Act.put, List.setIfInBounds_toArray, List.set_cons_zero, List.set_cons_succ]
            gi_wp2
            exact HFIN.out
          · gi_wp2
            refine hK.out _ _ ?_
            try simp only [Act.put, List.setIfInBounds_toArray, List.set_cons_zero, List.set_cons_succ]
            clear hK K
            refine anyIn_two (i := 0) (k := 5) (by kernel_rfl) rfl rfl (by rfl) (by rfl) (fun K hK => ?_) (fun K hK => ?_)
            · gi_wp2
              refine hK.out _ _ ?_
              try simp only [Act.put, List.setIfInBounds_toArray, List.set_cons_zero, List.set_cons_succ]
              clear hK K
              refine anyIn_one (i := 5) (by kernel_rfl) rfl (by rfl) (fun K hK => ?_)
              gi_wp2
              refine hK.out _ _ ?_
              try simp only [Act.put, List.setIfInBounds_toArray, List.set_cons_zero, List.set_cons_succ]
              clear hK K
              refine anyIn_one (i := 6) (by kernel_rfl) rfl (by rfl) (fun K hK => ?_)
              refine wpIn_append (.tmp 13) (.tmp 18) 53 rfl v _ _ rfl rfl HRUN.out ?_
              refine hK.out _ _ ?_
              try simp only [Act.put, List.setIfInBounds_toArray, List.set_cons_zero, List.set_cons_succ]
              clear hK K
              refine anyIn_one (i := 7) (by kernel_rfl) rfl (by rfl) (fun K hK => ?_)
              gi_wp2
              refine hK.out _ _ ?_
              try simp only [Act.put, List.setIfInBounds_toArray, List.set_cons_zero, List.set_cons_succ]
              clear hK K
              refine anyIn_done (by kernel_rfl) ?_ _
              try simp only [Act.put, List.setIfInBounds_toArray, List.set_cons_zero, List.set_cons_succ]
              gi_wp2
              exact HFIN.out
            · gi_wp2
              refine hK.out _ _ ?_
              try simp only [Act.put, List.setIfInBounds_toArray, List.set_cons_zero, List.set_cons_succ]
              clear hK K
              refine anyIn_one (i := 0) (by kernel_rfl) rfl (by rfl) (fun K hK => ?_)
              gi_wp2
              refine hK.out _ _ ?_
              try simp only [Act.put, List.setIfInBounds_toArray, List.set_cons_zero, List.set_cons_succ]
              clear hK K
              refine anyIn_one (i := 6) (by kernel_rfl) rfl (by rfl) (fun K hK => ?_)
              refine wpIn_append (.tmp 13) (.tmp 18) 53 rfl v _ _ rfl rfl HRUN.out ?_
              refine hK.out _ _ ?_
              try simp only [Act.put, List.setIfInBounds_toArray, List.set_cons_zero, List.set_cons_succ]
              clear hK K
              refine anyIn_one (i := 7) (by kernel_rfl) rfl (by rfl) (fun K hK => ?_)
              gi_wp2
              refine hK.out _ _ ?_
              try simp only [Act.put, List.setIfInBounds_toArray, List.set_cons_zero, List.set_cons_succ]
              clear hK K
              refine anyIn_done (by kernel_rfl) ?_ _
              try simp only [Act.put, List.setIfInBounds_toArray, List.set_cons_zero, List.set_cons_succ]
              gi_wp2
              exact HFIN.out
  case done =>
    rintro D W5 hD ⟨⟨v, hv, hrow⟩, hrB, hB5⟩ hK
    obtain ⟨ad, vn, vc, hvv⟩ : ∃ ad vn vc, v = .slice ad vn vc := by
      rcases hrow.2 with ⟨rfl, _⟩ | ⟨g, cap, cur, rfl, _⟩
      · exact ⟨_, _, _, rfl⟩
      · exact ⟨_, _, _, rfl⟩
    subst hvv
    have c1 := hv.cell
    have c2 := hrB.cell
    have f2 := hrB.frozen
    have HV : Hid (Boxed W5 (n₀ + 1) 53 (.slice ad vn vc) ∧ W5.ownsRow n₀ 2 1 (.slice ad vn vc) xs.length (xs.map fun x => .int .i64 (id x)) ∧ Boxed W5 n₀ 53 (.slice none 0 0) ∧ Below n₀ w W5) := ⟨hv, hrow, hrB, hB5⟩
    have HK : Hid (W5.heap[D]? = some (.deferred (some []))) := hK
    clear hv hrow hrB hB5 hK ownC keepB
    gi_wp2
    obtain ⟨hv, hrow, hrB, hB5⟩ := HV.out
    have hK' : (W5.setCell ⟨n₀, 0, none⟩ (.slice ad vn vc)).heap[D]? = some (.deferred (some [])) := (KeepsOthers.setCell W5 _ _).same D _ HK.out rfl
    have hrB2 : Boxed (W5.setCell ⟨n₀, 0, none⟩ (.slice ad vn vc)) n₀ 53 (.slice ad vn vc) := hrB.set _
    have hrow2 : (W5.setCell ⟨n₀, 0, none⟩ (.slice ad vn vc)).ownsRow n₀ 2 1 (.slice ad vn vc) xs.length (xs.map fun x => .int .i64 (id x)) := hrow.kept (grownBy_setCell' W5 n₀ _) (.inr (hrB.not_row (by decide) hrow).symm)
    have hDn : n₀ ≠ D := by omega
    refine ⟨by simp, .inl ⟨_, _, rfl, run_takeDeferred hK', ?_⟩⟩
    have hB7 : Below n₀ w ((W5.setCell ⟨n₀, 0, none⟩ (.slice ad vn vc)).putObj D (.deferred none)) := by
      refine hB5.trans ((?_ : Below n₀ W5 (W5.setCell ⟨n₀, 0, none⟩ (.slice ad vn vc))).trans ⟨rfl, rfl, rfl, by simp, fun k hk => World.putObj_heap_other (by omega)⟩)
      exact (Below.refl n₀ W5).setCell (p := ⟨n₀, 0, none⟩) (Nat.le_refl _) _
    have hrow7 := ownsRow_putObj hrow2 (.deferred none) hK' rfl
    have hc7 : ((W5.setCell ⟨n₀, 0, none⟩ (.slice ad vn vc)).putObj D (.deferred none)).cell? ⟨n₀, 0, none⟩ = some (.slice ad vn vc) := Boxed.cell (t := 53) ((World.putObj_heap_other hDn).trans hrB2)
    rw [HN0.out] at hB7 hrow7
    exact ⟨_, results9 _ _ n₀ _ rfl hc7, _, rfl, by rw [HN0.out]; exact hrow7, by rw [HN0.out]; exact hB7⟩
end Go.Proofs.YbulkdxqmGreatFmt
