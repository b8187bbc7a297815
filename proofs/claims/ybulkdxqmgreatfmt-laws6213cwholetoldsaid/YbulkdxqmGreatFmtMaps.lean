/- A map of the call's own as a plain function from keys to what the elements read as: over the kit's 'World.ownsMap'. -/
import Derived.Maps.OwnSet
import Derived.WalkKit
namespace Go.Proofs.YbulkdxqmGreatFmt
open Go.RowKit Go.Maps

abbrev Rd := Value → Option (DataW Unit × List MemPlace)

/-- Block b of w is a map of at most n entries, of exactly c entries, that holds at each key what f says. -/
def MapAt (w : World) (P : Program) (k : TypeId) (R : Rd) (b n c : Nat) (f : Lit → Option (DataW Unit)) : Prop :=
  ∃ D, w.ownsMap P k R b n D ∧ Maps.size D = c ∧ ∀ kl, Maps.has D kl = (f kl).isSome ∧ ∀ d, f kl = some d → ∀ z, D.atKey kl z = d

section
variable {w : World} {P : Program} {k : TypeId} {R : Rd} {b n c : Nat} {f : Lit → Option (DataW Unit)}

theorem MapAt.made (w : World) (P : Program) (k : TypeId) (R : Rd) : MapAt (w.alloc (.map #[] 0)) P k R w.heap.size 0 0 (fun _ => none) :=
  ⟨.map [], World.ownsMap_made _ _ _ _, rfl, fun kl => ⟨by simp [Maps.has], fun d h => by cases h⟩⟩

theorem MapAt.alloc (h : MapAt w P k R b n c f) (o : Obj) : MapAt (w.alloc o) P k R b n c f := by
  obtain ⟨D, h1, h2⟩ := h; exact ⟨D, h1.alloc o, h2⟩
theorem MapAt.drew (h : MapAt w P k R b n c f) : MapAt w.drew P k R b n c f := by
  obtain ⟨D, h1, h2⟩ := h; exact ⟨D, h1.drew, h2⟩
theorem MapAt.setCell (h : MapAt w P k R b n c f) {a : Addr} (ha : b ≠ a.block) (u : Value) : MapAt (w.setCell a u) P k R b n c f := by
  obtain ⟨D, h1, h2⟩ := h; exact ⟨D, h1.setCell ha u, h2⟩
theorem MapAt.kept {w' : World} {row : Option Nat} (h : MapAt w P k R b n c f) (hg : w.grownBy w' row) (hne : some b ≠ row) : MapAt w' P k R b n c f := by
  obtain ⟨D, h1, h2⟩ := h; exact ⟨D, h1.kept hg hne, h2⟩
theorem MapAt.of_block {w' : World} (h : MapAt w P k R b n c f) (hb : w'.heap[b]? = w.heap[b]?) : MapAt w' P k R b n c f := by
  obtain ⟨D, ⟨es, clock, h1, r⟩, h2⟩ := h
  exact ⟨D, ⟨es, clock, hb.trans h1, r⟩, h2⟩
theorem MapAt.mono {n' : Nat} (h : MapAt w P k R b n c f) (hn : n ≤ n') : MapAt w P k R b n' c f := by
  obtain ⟨D, h1, h2⟩ := h; exact ⟨D, h1.mono hn, h2⟩
theorem MapAt.lt (h : MapAt w P k R b n c f) : b < w.heap.size := by
  obtain ⟨D, h1, _⟩ := h; exact h1.lt
theorem MapAt.size_le (h : MapAt w P k R b n c f) : c ≤ n := by
  obtain ⟨D, h1, h2, _⟩ := h; exact h2 ▸ h1.size_le

/-- 'v, ok := m[k]' where the key is there. -/
theorem MapAt.look2_hit {t e : TypeId} (h : MapAt w P k R b n c f) (K : Keyed P k) (ht : P.underlying t = some (.map k e)) {z : Value} (hz : ∀ w, (zeroValue e).run P w = .ok z w) {zd : DataW Unit} {zp : List MemPlace} (hzd : R z = some (zd, zp))
    {key u : Value} {kl : Lit} (hkey : keyOf P k key = some kl) {d : DataW Unit} (hf : f kl = some d) (hinj : ∀ v ps, R v = some (d, ps) → v = u) :
    (Instr.lookup t (.map (some b)) key true).run P w = .ok (.tuple #[u, .bool true]) w := by
  obtain ⟨D, h1, h2, h3⟩ := h
  obtain ⟨v, ps, hrun, hv⟩ := h1.look_ok K ht (hz w) hzd hkey
  rw [(h3 kl).2 d hf] at hv
  rw [hinj v ps hv, (h3 kl).1, hf] at hrun
  exact hrun
/-- .. where it is not. -/
theorem MapAt.look2_miss {t e : TypeId} (h : MapAt w P k R b n c f) (K : Keyed P k) (ht : P.underlying t = some (.map k e)) {z : Value} (hz : ∀ w, (zeroValue e).run P w = .ok z w) {zd : DataW Unit} {zp : List MemPlace} (hzd : R z = some (zd, zp))
    {key : Value} {kl : Lit} (hkey : keyOf P k key = some kl) (hf : f kl = none) (hinj : ∀ v ps, R v = some (zd, ps) → v = z) :
    (Instr.lookup t (.map (some b)) key true).run P w = .ok (.tuple #[z, .bool false]) w := by
  obtain ⟨D, h1, h2, h3⟩ := h
  obtain ⟨v, ps, hrun, hv⟩ := h1.look_ok K ht (hz w) hzd hkey
  have hn : Maps.has D kl = false := by rw [(h3 kl).1, hf]; rfl
  rw [atKey_of_not_has hn] at hv
  rw [hinj v ps hv, hn] at hrun
  exact hrun
/-- 'm[k]' where the key is there. -/
theorem MapAt.look_hit {t e : TypeId} (h : MapAt w P k R b n c f) (K : Keyed P k) (ht : P.underlying t = some (.map k e)) {z : Value} (hz : ∀ w, (zeroValue e).run P w = .ok z w) {zd : DataW Unit} {zp : List MemPlace} (hzd : R z = some (zd, zp))
    {key u : Value} {kl : Lit} (hkey : keyOf P k key = some kl) {d : DataW Unit} (hf : f kl = some d) (hinj : ∀ v ps, R v = some (d, ps) → v = u) :
    (Instr.lookup t (.map (some b)) key false).run P w = .ok u w := by
  obtain ⟨D, h1, h2, h3⟩ := h
  obtain ⟨v, ps, hrun, hv⟩ := h1.lookup K ht (hz w) hzd hkey
  rw [(h3 kl).2 d hf] at hv
  rw [hinj v ps hv] at hrun
  exact hrun
/-- 'len(m)'. -/
theorem MapAt.len {t e : TypeId} (h : MapAt w P k R b n c f) (ht : P.underlying t = some (.map k e)) (ty : TypeId) : (Builtin.len_ #[t] ty #[.map (some b)]).run P w = .ok (.int .i64 c) w := by
  obtain ⟨D, h1, h2, _⟩ := h
  rw [h1.len ht ty, h2]

/-- What a store makes of the function. -/
def putF (f : Lit → Option (DataW Unit)) (kl : Lit) (d : DataW Unit) : Lit → Option (DataW Unit) := fun x => if x.sameKey kl then some d else f x
theorem putF_same (f : Lit → Option (DataW Unit)) {kl : Lit} (hk : WideAt.IsKeyLit kl) (d : DataW Unit) : putF f kl d kl = some d := by
  unfold putF; rw [if_pos (WideAt.sameKey_self hk)]
theorem putF_other (f : Lit → Option (DataW Unit)) {kl x : Lit} (hk : WideAt.IsKeyLit kl) (d : DataW Unit) (hx : x ≠ kl) : putF f kl d x = f x := by
  unfold putF; rw [if_neg (fun h => hx ((WideAt.sameKey_iff hk).1 h))]
/-- 'm[k] = v'. -/
theorem MapAt.update {t e : TypeId} (h : MapAt w P k R b n c f) (K : Keyed P k) (ht : P.underlying t = some (.map k e)) (hn : n < maxLen) {key val : Value} {kl : Lit} {d : DataW Unit} {ps : List MemPlace}
    (hkey : keyOf P k key = some kl) (hk : WideAt.IsKeyLit kl) (hv : R val = some (d, ps)) :
    ∃ w', (Instr.mapUpdate t (.map (some b)) key val).run P w = .ok () w' ∧ MapAt w' P k R b (n + 1) (if (f kl).isSome then c else c + 1) (putF f kl d) ∧ w.grownBy w' (some b) := by
  obtain ⟨D, h1, h2, h3⟩ := h
  obtain ⟨w', hrun, ho, hg⟩ := h1.update K ht hn hkey hv
  refine ⟨w', hrun, ⟨_, ho, ?_, fun x => ?_⟩, hg⟩
  · rw [size_put (h1.tidy K), (h3 kl).1, h2]
  · by_cases hx : x = kl
    · subst hx
      refine ⟨by rw [putF_same f hk, has_put_same h1.isMap hk]; rfl, fun d' hd z => ?_⟩
      rw [putF_same f hk] at hd
      cases hd
      exact atKey_put_same h1.isMap hk _ _
    · refine ⟨by rw [putF_other f hk d hx, has_put_other hx, (h3 x).1], fun d' hd z => ?_⟩
      rw [putF_other f hk d hx] at hd
      rw [atKey_put_other hx, (h3 x).2 d' hd]

/-- 'm[k] = v' at the operation, for the walk. -/
theorem wpList_put {ops : Array Oper} {rest : List Oper} {o : Oper} {a : Act} {Q : Exit → Act → World → Prop}
    (hg : o.guard = none) (m x v : Operand) (t : TypeId) (hop : o.op = Op.mapUpdate t m x v)
    (e : TypeId) (K : Keyed P k) (ht : P.underlying t = some (.map k e))
    (hm : a.eval m = .map (some b)) (h : MapAt w P k R b n c f) (hn : n < maxLen) (key val : Value) (kl : Lit) (hx : a.eval x = key) (hv : a.eval v = val) (hkey : keyOf P k key = some kl) (hk : WideAt.IsKeyLit kl)
    (d : DataW Unit) (ps : List MemPlace) (hval : R val = some (d, ps))
    (hK : ∀ w', MapAt w' P k R b (n + 1) (if (f kl).isSome then c else c + 1) (putF f kl d) → w.grownBy w' (some b) → wpList P ops Q rest (a.put o.dst undef) w') :
    wpList P ops Q (o :: rest) a w := by
  refine wpList_plain hg fun K' hK' => ?_
  obtain ⟨w', hrun, r1, r2⟩ := h.update K ht hn hkey hk hval
  unfold Oper.wp
  simp [execOp, hop, hm, hx, hv, hrun, Result.andThen]
  exact hK' _ _ (hK w' r1 r2)
end

/-- How a pointer to the head of a block reads: as the block's number (a ghost of the proof). -/
def ptrElem : Rd
  | .pointer none => some (.nil, [])
  | .pointer (some a) => if a.off = 0 ∧ a.spot = none then some (.lit (.int .i64 a.block), []) else none
  | _ => none
theorem ptrElem_mk (p : Nat) : ptrElem (.pointer (some ⟨p, 0, none⟩)) = some (.lit (.int .i64 p), []) := by simp [ptrElem]
theorem ptrElem_nil : ptrElem (.pointer none) = some (.nil, []) := rfl
theorem ptrElem_inv (p : Nat) (v : Value) (ps : List MemPlace) (h : ptrElem v = some (.lit (.int .i64 p), ps)) : v = .pointer (some ⟨p, 0, none⟩) := by
  unfold ptrElem at h
  split at h
  · simp at h
  · rename_i a
    split at h
    · rename_i hc
      obtain ⟨b, off, sp⟩ := a
      simp at h hc
      obtain ⟨rfl, rfl⟩ := hc
      obtain ⟨h, _⟩ := h
      have : b = p := by omega
      rw [this]
    · cases h
  · cases h
theorem ptrElem_inv_nil (v : Value) (ps : List MemPlace) (h : ptrElem v = some (.nil, ps)) : v = .pointer none := by
  unfold ptrElem at h
  split at h
  · rfl
  · split at h
    · simp at h
    · cases h
  · cases h

end Go.Proofs.YbulkdxqmGreatFmt
