/- LawS6213CWhole: the ids that were seen: a map of the call's own as a set; append onto a slice of the call's own, by what it turns. -/
import Derived.Test.YbulkdxqmGreatFmtMaps
import Derived.Test.YbulkdxqmGreatFmtSum
import Derived.Maps.AppendAt
namespace Go.Proofs.YbulkdxqmGreatFmt
set_option linter.unusedVariables false
open Go.RowKit Go.Maps

theorem key2 : Keyed Ybaz.prog 2 := int_keyed Ybaz.underlying2
theorem isKey2 (b : Int) : WideAt.IsKeyLit (.int .i64 b) := by simp [WideAt.IsKeyLit]
theorem zero4 (w : World) : (zeroValue 4).run Ybaz.prog w = .ok (.bool false) w := by kernel_rfl
def boolElem : Rd
  | .bool b => some (.lit (.bool b), [])
  | _ => none
theorem boolElem_inv (b : Bool) (v : Value) (ps : List MemPlace) (h : boolElem v = some (.lit (.bool b), ps)) : v = .bool b := by
  unfold boolElem at h
  split at h
  · simp at h; rw [h.1]
  · cases h

def InI64 (v : Int) : Prop := -9223372036854775808 ≤ v ∧ v ≤ 9223372036854775807

/-- Block mb is the map of the ids S. -/
def Seen (w : World) (mb n : Nat) (S : Int → Prop) : Prop := ∃ c f, MapAt w Ybaz.prog 2 boolElem mb n c f ∧ ∀ v, (S v → f (.int .i64 v) = some (.lit (.bool true))) ∧ (¬ S v → f (.int .i64 v) = none)
theorem Seen.made (w : World) : Seen (w.alloc (.map #[] 0)) w.heap.size 0 (fun _ => False) := ⟨0, fun _ => none, MapAt.made _ _ _ _, fun v => ⟨fun h => h.elim, fun _ => rfl⟩⟩
theorem Seen.of_block {w w' : World} {mb n : Nat} {S : Int → Prop} (h : Seen w mb n S) (hb : w'.heap[mb]? = w.heap[mb]?) : Seen w' mb n S := by
  obtain ⟨c, f, h1, h2⟩ := h; exact ⟨c, f, h1.of_block hb, h2⟩
theorem Seen.lt {w : World} {mb n : Nat} {S : Int → Prop} (h : Seen w mb n S) : mb < w.heap.size := by
  obtain ⟨c, f, h1, h2⟩ := h; exact h1.lt
theorem Seen.turn {w : World} {mb n : Nat} {S S' : Int → Prop} (h : Seen w mb n S) (hS : ∀ v, S v ↔ S' v) : Seen w mb n S' := by
  obtain ⟨c, f, h1, h2⟩ := h; exact ⟨c, f, h1, fun v => ⟨fun hv => (h2 v).1 ((hS v).2 hv), fun hv => (h2 v).2 (fun e => hv ((hS v).1 e))⟩⟩
theorem Seen.map {w : World} {mb n : Nat} {S : Int → Prop} (h : Seen w mb n S) : ∃ es clock, w.heap[mb]? = some (.map es clock) := by
  obtain ⟨c, f, ⟨D, ⟨es, clock, h1, _⟩, _⟩, _⟩ := h; exact ⟨es, clock, h1⟩
theorem Seen.hit {w : World} {mb n : Nat} {S : Int → Prop} (h : Seen w mb n S) {v : Int} (hv : InI64 v) (hS : S v) : (Instr.lookup 95 (.map (some mb)) (.int .i64 v) false).run Ybaz.prog w = .ok (.bool true) w := by
  obtain ⟨c, f, h1, h2⟩ := h
  exact h1.look_hit key2 Ybaz.underlying95 zero4 (show boolElem (.bool false) = some (.lit (.bool false), []) from rfl) (keyOf_int_mk Ybaz.underlying2 (WalkArith.wf_i64 hv)) ((h2 v).1 hS) (boolElem_inv true)
theorem Seen.miss {w : World} {mb n : Nat} {S : Int → Prop} (h : Seen w mb n S) {v : Int} (hv : InI64 v) (hS : ¬ S v) : (Instr.lookup 95 (.map (some mb)) (.int .i64 v) false).run Ybaz.prog w = .ok (.bool false) w := by
  obtain ⟨c, f, ⟨D, h1, h3, h4⟩, h2⟩ := h
  obtain ⟨u, ps, hrun, hu⟩ := h1.lookup key2 Ybaz.underlying95 (zero4 w) (show boolElem (.bool false) = some (.lit (.bool false), []) from rfl) (keyOf_int_mk Ybaz.underlying2 (WalkArith.wf_i64 hv))
  have hn : Maps.has D (.int .i64 v) = false := by rw [(h4 _).1, (h2 v).2 hS]; rfl
  rw [atKey_of_not_has hn] at hu
  rw [boolElem_inv false u ps hu] at hrun
  exact hrun

theorem Chg.of_map {w w' : World} {mb : Nat} (hg : w.grownBy w' (some mb)) (h1 : ∃ es clock, w.heap[mb]? = some (.map es clock)) (h2 : ∃ es clock, w'.heap[mb]? = some (.map es clock)) : Chg (fun x _ => x = mb) w w' := by
  obtain ⟨es, cl, h1⟩ := h1
  obtain ⟨es', cl', h2⟩ := h2
  have hb : ∀ x, x < w.heap.size → x ≠ mb → w'.heap[x]? = w.heap[x]? := fun x hx hne => hg.block x hx (fun e => hne (by simpa using e))
  refine ⟨hg.size, hg.os, hg.tape, hg.output, fun x j hx hn => World.cell?_of_block (hb x hx hn), fun x j hx => ?_, fun x s hs => ?_, fun x j hs => ?_, fun x hx hn => hb x hx (hn 0), fun x t hp => ?_⟩
  · by_cases e : x = mb
    · subst e; simp [World.frozen?, h1, h2]
    · exact World.frozen?_of_block (hb x hx e)
  · by_cases e : x = mb
    · subst e; simp [World.shape?, h1] at hs
    · have hlt := shape_lt hs
      unfold World.shape? at hs ⊢
      rw [hb x hlt e]; exact hs
  · by_cases e : x = mb
    · subst e; simp [World.cell?, h1] at hs
    · rw [World.cell?_of_block (hb x (some_lt hs) e)]; exact hs
  · by_cases e : x = mb
    · subst e; obtain ⟨T, hT⟩ := hp; rw [h1] at hT; cases hT
    · obtain ⟨T, hT⟩ := hp
      exact ⟨T, (hb x (Array.getElem?_eq_some_iff.1 hT).1 e).trans hT⟩

/-- 'seen[v] = true'. -/
theorem wpList_seen {w : World} {mb n : Nat} {S : Int → Prop} {ops : Array Oper} {rest : List Oper} {o : Oper} {a : Act} {Q : Exit → Act → World → Prop} (hgd : o.guard = none) (m x : Operand) (u : Operand) (hop : o.op = Op.mapUpdate 95 m x u)
    (hm : a.eval m = .map (some mb)) (h : Seen w mb n S) (hn : n < 1000000) (v : Int) (hx : a.eval x = .int .i64 v) (hu : a.eval u = .bool true) (hv : InI64 v)
    (hK : ∀ w', Seen w' mb (n + 1) (fun y => y = v ∨ S y) → Chg (fun x _ => x = mb) w w' → wpList Ybaz.prog ops Q rest (a.put o.dst undef) w') : wpList Ybaz.prog ops Q (o :: rest) a w := by
  have hmap := h.map
  obtain ⟨c, f, h1, h2⟩ := h
  refine wpList_put (f := f) (c := c) (R := boolElem) hgd m x u 95 hop 4 key2 Ybaz.underlying95 hm h1 (by unfold maxLen; omega) (.int .i64 v) (.bool true) (.int .i64 v) hx hu (keyOf_int_mk Ybaz.underlying2 (WalkArith.wf_i64 hv)) (isKey2 v) (.lit (.bool true)) [] rfl ?_
  intro w' m1 g1
  have hs : Seen w' mb (n + 1) (fun y => y = v ∨ S y) := ⟨_, _, m1, fun y => by
    by_cases e : y = v
    · subst e
      exact ⟨fun _ => putF_same f (isKey2 y) _, fun hn => absurd (Or.inl rfl) hn⟩
    · rw [putF_other f (isKey2 v) _ (fun h => by cases h; exact e rfl)]
      exact ⟨fun hy => (h2 y).1 (hy.resolve_left e), fun hy => (h2 y).2 (fun h => hy (Or.inr h))⟩⟩
  exact hK w' hs (Chg.of_map g1 hmap hs.map)

/-! ### append of one element of one cell -/
theorem Chg.setRow {w : World} {g : Nat} {cur cs : Array Value} {e : TypeId} (hg : w.heap[g]? = some (.cells cur e (0, 0))) (hs : cs.size = cur.size) : Chg (fun x _ => x = g) w (w.setRow g cs) := by
  have h2 : (w.setRow g cs).heap[g]? = some (.cells cs e (0, 0)) := setRow_heap w g cur cs e _ hg
  have hb : ∀ x, x ≠ g → (w.setRow g cs).heap[x]? = w.heap[x]? := fun x hne => setRow_other w g x _ hne
  refine ⟨by simp, rfl, rfl, rfl, fun x j hx hn => World.cell?_of_block (hb x hn), fun x j hx => ?_, fun x s hs' => ?_, fun x j hs' => ?_, fun x hx hn => hb x (hn 0), fun x t hp => ?_⟩
  · by_cases e : x = g
    · subst e; simp [World.frozen?, hg, h2]
    · exact World.frozen?_of_block (hb x e)
  · by_cases e : x = g
    · subst e
      simp only [World.shape?, hg] at hs'
      simp only [World.shape?, h2, hs]; exact hs'
    · unfold World.shape? at hs' ⊢
      rw [hb x e]; exact hs'
  · by_cases e : x = g
    · subst e
      rw [cell_of_row _ _ _ _ _ _ hg] at hs'
      rw [cell_of_row _ _ _ _ _ _ h2]
      obtain ⟨u, hu⟩ := Option.isSome_iff_exists.1 hs'
      have := (Array.getElem?_eq_some_iff.1 hu).1
      rw [Array.getElem?_eq_getElem (by omega)]; rfl
    · rw [World.cell?_of_block (hb x e)]; exact hs'
  · by_cases e : x = g
    · subst e; obtain ⟨T, hT⟩ := hp
      rw [hg] at hT; cases hT
      exact ⟨cs, h2⟩
    · obtain ⟨T, hT⟩ := hp
      exact ⟨T, (hb x e).trans hT⟩

section
variable {P : Program}
theorem run_append_chg (w : World) (base : Nat) (t ty e : TypeId) (i : TypeInfo) (z : Value) (bytes : Nat) (ht : P.underlying t = some (.slice e)) (hi : P.info? e = some i) (hz : i.zero = some z)
    (hsize : i.size = 1) (hby : i.bytes = bytes) (hzs : z.cells.size = 1) (v : Value) (n : Nat) (xs : List Value) (hown : w.ownsRow base e 1 v n xs)
    (a : Addr) (c : Nat) (u : Value) (hnew : w.cell? a = some u) (h1 : u.oneCell' = true) (hb8 : bytes ≤ 64) (h63 : n ≤ 1000000) (hbase : base ≤ w.heap.size) :
    ∃ g cap w', (Builtin.append_ #[t, t] ty #[v, .slice (some a) 1 c]).run P w = .ok (.slice (some ⟨g, 0, none⟩) (n + 1) cap) w' ∧ w'.ownsRow base e 1 (.slice (some ⟨g, 0, none⟩) (n + 1) cap) (n + 1) (xs ++ [u]) ∧ Chg (fun x _ => v.ownBlock = some x) w w' ∧
      (v.ownBlock = some g ∨ g = w.heap.size) := by
  have hnews : ∀ j y, [u][j]? = some y → w.cell? (a.add j) = some y := fun j y hj => by
    match j, hj with
    | 0, hj =>
      have ha : a.add 0 = a := by unfold Addr.add; split <;> simp_all
      simp at hj; subst hj; rw [ha]; exact hnew
  have hl : ([u] : List Value).length = 1 * i.size := by rw [hsize]; rfl
  have h1' : ∀ y ∈ ([u] : List Value), y.oneCell' = true := fun y hy => by simp at hy; subst hy; exact h1
  have hown1 : w.ownsRow base e i.size v n xs := by rw [hsize]; exact hown
  obtain ⟨v', w', hr, h2, h3, _, h5⟩ := run_append_own_at (P := P) w base t ty e i z i.size bytes ht hi hz rfl hby (by rw [hsize]; exact hzs) (by omega) v n xs hown1 a 1 c [u] hl hnews h1' (by unfold maxLen; omega) (by
    have := Nat.mul_le_mul (show n + 1 ≤ 1000001 by omega) hb8
    omega) hbase
  have h2' := h2
  rw [hsize] at h2'
  have hxl : xs.length = n := by have := hown.1; omega
  rcases hown.2 with ⟨rfl, rfl⟩ | ⟨g, cap, cur, rfl, hbg, hg, hnc, hcm, hcs, htake⟩
  · have hv' : ∃ g cap, v' = .slice (some ⟨g, 0, none⟩) (0 + 1) cap := by
      rcases h2.2 with ⟨_, h⟩ | ⟨g, cap, _, h, _⟩
      · omega
      · exact ⟨g, cap, h⟩
    obtain ⟨g, cap, rfl⟩ := hv'
    refine ⟨g, cap, w', hr, h2', ?_, ?_⟩
    · exact Chg.of_below ⟨h3.os, h3.tape, h3.output, h3.size, fun k hk => h3.block k hk (by simp [Value.ownBlock])⟩
    · rcases h5 with h5 | h5
      · simp [Value.ownBlock] at h5
      · exact Or.inr (by simpa [Value.ownBlock] using h5)
  · by_cases hroom : n + 1 ≤ cap
    · have hfit : n * i.size + ([u] : List Value).length ≤ cur.size := by rw [hcs, hsize]; simp; omega
      have hr2 := run_append_room (P := P) w t ty e i ht hi g n cap cur hg a 1 c [u] hl hnews h1' hroom hfit
      rw [hr] at hr2
      injection hr2 with e1 e2
      refine ⟨g, cap, w', by rw [hr, e1], by rw [e1] at h2'; exact h2', ?_, Or.inl rfl⟩
      rw [e2]
      refine (Chg.setRow hg ?_).mono (fun x j _ h => by simp [Value.ownBlock, h])
      simp [hsize]; rw [hsize] at hfit; simp at hfit; omega
    · have holds : ∀ j y, xs[j]? = some y → w.cell? ((⟨g, 0, none⟩ : Addr).add j) = some y := hown.cells (g := g) rfl
      have hr2 := run_append_grow (P := P) w t ty e i z ht hi hz ⟨g, 0, none⟩ n cap xs (by rw [hsize]; omega) holds a 1 c [u] hl hnews (by omega) (by omega) (growslice_fits (by omega) (by
        subst hby
        have := Nat.mul_le_mul (show n + 1 ≤ 1000001 by omega) hb8
        omega))
      rw [hr] at hr2
      injection hr2 with e1 e2
      refine ⟨w.heap.size, _, w', by rw [hr, e1], by rw [e1] at h2'; exact h2', ?_, Or.inr rfl⟩
      rw [e2]
      exact (Chg.refl _ w).drew.alloc _

theorem wpList_append_chg {w : World} {ops : Array Oper} {rest : List Oper} {o : Oper} {a : Act} {Q : Exit → Act → World → Prop} (hgd : o.guard = none) (s x : Operand) (t : TypeId)
    (ho : o.op = .call { callee := .builtin .append, args := #[s, x], argTypes := #[t, t] })
    (base : Nat) (e : TypeId) (i : TypeInfo) (z : Value) (bytes : Nat) (ht : P.underlying t = some (.slice e)) (hi : P.info? e = some i) (hz : i.zero = some z)
    (hsize : i.size = 1) (hby : i.bytes = bytes) (hzs : z.cells.size = 1) (v : Value) (n : Nat) (xs : List Value) (hs : a.eval s = v) (hown : w.ownsRow base e 1 v n xs)
    (ad : Addr) (c : Nat) (u : Value) (hx : a.eval x = .slice (some ad) 1 c) (hnew : w.cell? ad = some u) (h1 : u.oneCell' = true) (hb8 : bytes ≤ 64) (h63 : n ≤ 1000000) (hbase : base ≤ w.heap.size)
    (h : ∀ g cap w', w'.ownsRow base e 1 (.slice (some ⟨g, 0, none⟩) (n + 1) cap) (n + 1) (xs ++ [u]) → Chg (fun x _ => v.ownBlock = some x) w w' → (v.ownBlock = some g ∨ g = w.heap.size) → wpList P ops Q rest (a.put o.dst (.slice (some ⟨g, 0, none⟩) (n + 1) cap)) w') :
    wpList P ops Q (o :: rest) a w := by
  refine wpList_plain hgd fun K hK => ?_
  obtain ⟨g, cap, w', hr, h2, h3, h4⟩ := run_append_chg (P := P) w base t o.type e i z bytes ht hi hz hsize hby hzs v n xs hown ad c u hnew h1 hb8 h63 hbase
  unfold Oper.wp execOp
  simp only [ho, resolve, invoke, builtin, Sem.run_bind, Sem.run_pure, Result.andThen_ok, List.map_toArray, List.map_cons, List.map_nil, hs, hx, hr]
  exact hK _ _ (h g cap w' h2 h3 h4)
end
end Go.Proofs.YbulkdxqmGreatFmt
