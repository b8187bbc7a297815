/- LawS6216APart: the walk. -/
import Derived.Test.YbulkdxscAWalk
import Derived.Laws.Tables
namespace Go.Proofs.Ybulkdxsc
set_option linter.unusedVariables false
open Go.RowKit Go.Maps Go.WideMaps Go.WideElems

/-- A great struct is built of one part: its value stays behind a name. -/
theorem wpList_build1 {P : Program} (w : World) {ops : Array Oper} {rest : List Oper} {o : Oper} {a : Act} {Q : Exit → Act → World → Prop} (hg : o.guard = none) (t : TypeId) (i : Nat) (x : Operand) (ho : o.op = .build t #[(i, x)])
    (u : Value) (hx : a.eval x = u) (v : Value) (hrun : (Instr.build t #[(i, u)]).run P w = .ok v w) (hK : wpList P ops Q rest (a.put o.dst v) w) : wpList P ops Q (o :: rest) a w := by
  refine wpList_plain hg fun K' hK' => ?_
  have hps : ((#[(i, x)] : Array (Nat × Operand)).map fun (i, x) => (i, a.eval x)) = #[(i, u)] := by simp [hx]
  unfold Oper.wp execOp
  simp only [ho, Sem.run_bind, hps, hrun, Result.andThen_ok]
  exact hK' _ _ hK

theorem simFacts : ∃ C : Nat → Nat → Array Value, ∀ db kk, (∀ w, (Instr.build 84 #[(31, .slice (some ⟨db, 0, none⟩) kk kk)]).run Yba.prog w = .ok (.agg (C db kk)) w) ∧ (C db kk)[2196]? = some (.slice (some ⟨db, 0, none⟩) kk kk) ∧ (C db kk)[2159]? = some (.slice none 0 0) := by
  refine ⟨fun db kk => (Yba.prog.built 84 [(31, .slice (some ⟨db, 0, none⟩) kk kk)]).getD #[], fun db kk => ⟨fun w => ?_, by kernel_rfl, by kernel_rfl⟩⟩
  have h : (Yba.prog.built 84 [(31, .slice (some ⟨db, 0, none⟩) kk kk)]).isSome = true := by kernel_rfl
  obtain ⟨cells, hc⟩ := Option.isSome_iff_exists.1 h
  show _ = Result.ok (Value.agg ((Yba.prog.built 84 [(31, .slice (some ⟨db, 0, none⟩) kk kk)]).getD #[])) w
  rw [hc]
  exact run_build w 84 _ cells hc

theorem info94 : (Yba.prog.info? 94).map (fun i => (i.zero, i.size, i.bytes)) = some (some (.agg #[.map none, .slice none 0 0, .nilFunc, .nilFunc, .slice none 0 0, .slice none 0 0, .slice none 0 0, .float .f64 0]), 8, 128) := by kernel_rfl
def dlCells (n : Nat) : Array Value := madeCells #[.map none, .slice none 0 0, .nilFunc, .nilFunc, .slice none 0 0, .slice none 0 0, .slice none 0 0, .float .f64 0] (n * 8)
theorem make_dl (n : Nat) (hn : n ≤ 8) (w : World) : (Instr.makeSlice 25 (.int .i64 (n : Int)) (.int .i64 (n : Int))).run Yba.prog w = .ok (.slice (some ⟨w.heap.size, 0, none⟩) n n) (w.alloc (.cells (dlCells n) 94)) := by
  obtain ⟨i, hi, hzz⟩ := Option.map_eq_some_iff.1 info94
  simp only [Prod.mk.injEq] at hzz
  obtain ⟨hz, hs, hb⟩ := hzz
  have hr := run_make (P := Yba.prog) w 25 94 i _ Yba.underlying25 hi hz .i64 .i64 n n (by omega) (Int.le_refl _) (by rw [hb]; omega) (by omega)
  simp only [Int.toNat_natCast, hs, Value.cells] at hr
  exact hr

theorem info3 : (Yba.prog.info? 3).map (fun i => (i.zero, i.size, i.bytes)) = some (some (.int .i64 0), 1, 8) := by kernel_rfl
theorem u8_inv (l : Int) (v : Value) (ps : List MemPlace) (h : plainElem Yba.prog 99 v = some ((.lit (.int .u8 l) : DataW Unit), ps)) : v = .int .u8 l := by
  obtain ⟨a, rfl, hz, _⟩ := plainElem_int_inv Yba.underlying99 h
  simp at hz
  rw [hz.1]
/-- What a node's map holds, as the list says. -/
def fL (L : List Ent) (i : Int) : Lit → Option (DataW Unit)
  | .int .i64 b => (look L i b).map fun v => .lit (.int .u8 v)
  | _ => none
theorem fL_put {L L' : List Ent} {n b v : Int} (h : Put L n b v L') (hn : (keysOf L).Nodup) : putF (fL L n) (.int .i64 b) (.lit (.int .u8 v)) = fL L' n := by
  funext kl
  by_cases hk : kl = .int .i64 b
  · subst hk
    rw [putF_same _ (isKeyI b)]
    show _ = (look L' n b).map _
    rw [h.look hn, if_pos ⟨rfl, rfl⟩]
    rfl
  · rw [putF_other _ (isKeyI b) _ hk]
    unfold fL
    split
    · rename_i b'
      rw [h.look hn, if_neg (fun e => hk (by rw [e.2]))]
    · rfl
theorem fL_other {L L' : List Ent} {n b v : Int} (h : Put L n b v L') (hn : (keysOf L).Nodup) (i : Int) (hi : i ≠ n) : fL L' i = fL L i := by
  funext kl
  unfold fL
  split
  · rw [h.look hn, if_neg (fun e => hi e.1)]
  · rfl
theorem nextC_put {L L' : List Ent} {n b v : Int} (h : Put L n b v L') : nextC (fL L n (.int .i64 b)) (cntN L n) = cntN L' n := by
  rw [h.cnt]
  show (if ((look L n b).map _).isSome then _ else _) = _
  cases look L n b <;> simp

/-- Behind k rounds of the first loop: k maps are made. -/
structure St1 (w wr : World) (kk k : Nat) : Prop where
  sim : wr.cell? ⟨w.heap.size + 1, 2196, none⟩ = some (.slice (some ⟨w.heap.size, 0, none⟩) kk kk)
  hon : wr.cell? ⟨w.heap.size + 1, 2159, none⟩ = some (.slice none 0 0)
  dl : ∃ g, wr.rowIs w.heap.size 94 (kk * 8) g ∧ ∀ i, i < k → g (i * 8) = .map (some (w.heap.size + 2 + i))
  mp : ∀ i, i < k → MapAt wr Yba.prog 3 (plainElem Yba.prog 99) (w.heap.size + 2 + i) 0 0 (fun _ => none)
  bel : Below w.heap.size w wr
  sz : wr.heap.size = w.heap.size + 2 + k

theorem St1.start (w : World) (kk : Nat) (C : Array Value) (h1 : C[2196]? = some (.slice (some ⟨w.heap.size, 0, none⟩) kk kk)) (h2 : C[2159]? = some (.slice none 0 0)) : St1 w ((w.alloc (.cells (dlCells kk) 94)).alloc (.cells C 84)) kk 0 := by
  refine ⟨?_, ?_, ⟨fun j => (dlCells kk).getD j (.bool false), ?_, fun i hi => by omega⟩, fun i hi => by omega, ((Below.refl _ _).alloc (Nat.le_refl _) _).alloc (by simp) _, by simp⟩
  · rw [World.cell?_alloc_at _ _ _ _ (by simp)]; exact h1
  · rw [World.cell?_alloc_at _ _ _ _ (by simp)]; exact h2
  · have hs : (dlCells kk).size = kk * 8 := by simp [dlCells, size_madeCells]
    have := World.rowIs_alloc w (dlCells kk) 94 (fun j => (dlCells kk).getD j (.bool false)) (fun j hj => by simp [Array.getD, hj])
    rw [hs] at this
    exact this.alloc _

theorem St1.step {w wr : World} {kk k : Nat} (h : St1 w wr kk k) : St1 w ((wr.alloc (.map #[] 0)).setCell ⟨w.heap.size, k * 8, none⟩ (.map (some wr.heap.size))) kk (k + 1) := by
  obtain ⟨h1, h2, ⟨g, hg, hc⟩, hm, hb, hz⟩ := h
  refine ⟨?_, ?_, ⟨_, (hg.alloc _).set _ _, fun i hi => ?_⟩, fun i hi => ?_, (hb.alloc (by omega) _).setCell (by simp) _, by simp; omega⟩
  · rw [World.cell?_setCell_other _ _ _ _ (by simp), World.cell?_alloc_lt _ _ _ (by simp; omega)]; exact h1
  · rw [World.cell?_setCell_other _ _ _ _ (by simp), World.cell?_alloc_lt _ _ _ (by simp; omega)]; exact h2
  · by_cases e : i = k
    · subst e; simp [hz]
    · rw [if_neg (by omega)]; exact hc i (by omega)
  · by_cases e : i = k
    · subst e
      have := MapAt.made wr Yba.prog 3 (plainElem Yba.prog 99)
      rw [hz] at this
      rw [hz]
      exact this.setCell (by simp; omega) _
    · exact ((hm i (by omega)).alloc _).setCell (by simp; omega) _

/-- The model's list, the maps and the two slices, side by side. -/
structure St (w wr : World) (kk : Nat) (L : List Ent) (m : Nat) (kv vv : Value) : Prop where
  sim : wr.cell? ⟨w.heap.size + 1, 2196, none⟩ = some (.slice (some ⟨w.heap.size, 0, none⟩) kk kk)
  hon : wr.cell? ⟨w.heap.size + 1, 2159, none⟩ = some (.slice none 0 0)
  dl : ∀ i, i < kk → wr.cell? ⟨w.heap.size, i * 8, none⟩ = some (.map (some (w.heap.size + 2 + i)))
  mp : ∀ i, i < kk → MapAt wr Yba.prog 3 (plainElem Yba.prog 99) (w.heap.size + 2 + i) m (cntN L i) (fL L i)
  ks : wr.ownsRow (w.heap.size + 2 + kk) 103 2 kv L.length (kCells L)
  vs : wr.ownsRow (w.heap.size + 2 + kk) 99 1 vv L.length (vCells L)
  nd : (keysOf L).Nodup
  wf : ∀ e ∈ L, 0 ≤ e.1 ∧ e.1 < kk ∧ 0 < e.2.1 ∧ e.2.1 ≤ 4294967296 ∧ (Lit.int .u8 e.2.2).wf = true
  bel : Below w.heap.size w wr
  sz : w.heap.size + 2 + kk ≤ wr.heap.size
  len : L.length ≤ m

theorem St.start {w wr : World} {kk : Nat} (h : St1 w wr kk kk) : St w wr kk [] 0 (.slice none 0 0) (.slice none 0 0) := by
  obtain ⟨h1, h2, ⟨g, hg, hc⟩, hm, hb, hz⟩ := h
  refine ⟨h1, h2, fun i hi => ?_, fun i hi => ?_, World.ownsRow_nil _ _ _ _, World.ownsRow_nil _ _ _ _, by simp [keysOf], by simp, hb, by omega, by simp⟩
  · rw [hg.cell (by omega), hc i hi]
  · have : (fun _ => none : Lit → Option (DataW Unit)) = fL [] i := by
      funext kl
      unfold fL
      split <;> rfl
    rw [← this]
    exact hm i hi

/-- The state is there while only new blocks are made. -/
theorem St.later {w wr wx : World} {kk : Nat} {L : List Ent} {m : Nat} {kv vv : Value} (h : St w wr kk L m kv vv) (hb : Below wr.heap.size wr wx) : St w wx kk L m kv vv := by
  have hz := h.sz
  have hs := hb.size
  exact ⟨(hb.cell (by simp; omega)).trans h.sim, (hb.cell (by simp; omega)).trans h.hon, fun i hi => (hb.cell (by simp; omega)).trans (h.dl i hi), fun i hi => (h.mp i hi).of_block (hb.block _ (by omega)),
    own_of_block h.ks (fun k hk => hb.block k (h.ks.lt k hk).2), own_of_block h.vs (fun k hk => hb.block k (h.vs.lt k hk).2), h.nd, h.wf, h.bel.trans (hb.mono (by omega)), by omega, h.len⟩

/-- One entry: the map of its node takes it, then the model. -/
theorem St.step {w wr w2 w3 : World} {kk : Nat} {L L' : List Ent} {m : Nat} {kv vv kv' vv' : Value} {i : Nat} {b v : Int} (h : St w wr kk L m kv vv) (hi : i < kk) (hb0 : 0 < b) (hb1 : b ≤ 4294967296) (hv : (Lit.int .u8 v).wf = true)
    (m2 : MapAt w2 Yba.prog 3 (plainElem Yba.prog 99) (w.heap.size + 2 + i) (m + 1) (nextC (fL L i (.int .i64 b)) (cntN L i)) (putF (fL L i) (.int .i64 b) (.lit (.int .u8 v)))) (g2 : wr.grownBy w2 (some (w.heap.size + 2 + i)))
    (hp : Put L i b v L') (k3 : w3.ownsRow (w.heap.size + 2 + kk) 103 2 kv' L'.length (kCells L')) (v3 : w3.ownsRow (w.heap.size + 2 + kk) 99 1 vv' L'.length (vCells L')) (b3 : Below (w.heap.size + 2 + kk) w2 w3) :
    St w w3 kk L' (m + 1) kv' vv' := by
  have hz := h.sz
  have s2 := g2.size
  have s3 := b3.size
  have c2 : ∀ (p : Addr) u, p.block < w.heap.size + 2 → wr.cell? p = some u → w3.cell? p = some u := fun p u hp hc => (b3.cell (by omega)).trans (g2.cell hc (by simp; omega))
  refine ⟨c2 _ _ (by simp) h.sim, c2 _ _ (by simp) h.hon, fun j hj => c2 _ _ (by simp) (h.dl j hj), fun j hj => ?_, k3, v3, hp.nodup h.nd, fun e he => ?_, ?_, by omega, by have := hp.length; have := h.len; omega⟩
  · by_cases e : j = i
    · subst e
      rw [nextC_put hp, fL_put hp h.nd] at m2
      exact m2.of_block (b3.block _ (by omega))
    · have hne : (j : Int) ≠ (i : Int) := by omega
      rw [fL_other hp h.nd j hne, hp.cnt, if_neg (fun x => hne x.1)]
      exact (((h.mp j hj).kept g2 (by simp; omega)).of_block (b3.block _ (by omega))).mono (Nat.le_succ _)
  · rcases hp.mem e he with h1 | rfl
    · exact h.wf e h1
    · exact ⟨by simp, by simp; omega, hb0, hb1, hv⟩
  · exact (Below.grown h.bel g2 (by omega) (fun k hk => by cases hk; omega)).trans (b3.mono (by omega))

/-- The model first, then the map. -/
theorem St.step' {w wr w2 w3 : World} {kk : Nat} {L L' : List Ent} {m : Nat} {kv vv kv' vv' : Value} {i : Nat} {b v : Int} (h : St w wr kk L m kv vv) (hi : i < kk) (hb0 : 0 < b) (hb1 : b ≤ 4294967296) (hv : (Lit.int .u8 v).wf = true)
    (hp : Put L i b v L') (k2 : w2.ownsRow (w.heap.size + 2 + kk) 103 2 kv' L'.length (kCells L')) (v2 : w2.ownsRow (w.heap.size + 2 + kk) 99 1 vv' L'.length (vCells L')) (b2 : Below (w.heap.size + 2 + kk) wr w2)
    (m3 : MapAt w3 Yba.prog 3 (plainElem Yba.prog 99) (w.heap.size + 2 + i) (m + 1) (nextC (fL L i (.int .i64 b)) (cntN L i)) (putF (fL L i) (.int .i64 b) (.lit (.int .u8 v)))) (g3 : w2.grownBy w3 (some (w.heap.size + 2 + i))) :
    St w w3 kk L' (m + 1) kv' vv' := by
  have hz := h.sz
  have s2 := b2.size
  have s3 := g3.size
  have c2 : ∀ (p : Addr) u, p.block < w.heap.size + 2 → wr.cell? p = some u → w3.cell? p = some u := fun p u hp hc => g3.cell ((b2.cell (by omega)).trans hc) (by simp; omega)
  refine ⟨c2 _ _ (by simp) h.sim, c2 _ _ (by simp) h.hon, fun j hj => c2 _ _ (by simp) (h.dl j hj), fun j hj => ?_, own_of_block k2 (fun k hk => g3.block k (k2.lt k hk).2 (by have := (k2.lt k hk).1; simp; omega)), own_of_block v2 (fun k hk => g3.block k (v2.lt k hk).2 (by have := (v2.lt k hk).1; simp; omega)), hp.nodup h.nd, fun e he => ?_, ?_, by omega, by have := hp.length; have := h.len; omega⟩
  · by_cases e : j = i
    · subst e
      rw [nextC_put hp, fL_put hp h.nd] at m3
      exact m3
    · have hne : (j : Int) ≠ (i : Int) := by omega
      rw [fL_other hp h.nd j hne, hp.cnt, if_neg (fun x => hne x.1)]
      exact (((h.mp j hj).of_block (b2.block _ (by omega))).kept g3 (by simp; omega)).mono (Nat.le_succ _)
  · rcases hp.mem e he with h1 | rfl
    · exact h.wf e h1
    · exact ⟨by simp, by simp; omega, hb0, hb1, hv⟩
  · exact Below.grown (h.bel.trans (b2.mono (by omega))) g3 (by omega) (fun k hk => by cases hk; omega)

/-- A store into a block of another make. -/
theorem St.setOther {w wr : World} {kk : Nat} {L : List Ent} {m : Nat} {kv vv : Value} (h : St w wr kk L m kv vv) (cb j : Nat) (u : Value) (hcb : w.heap.size + 2 + kk ≤ cb) (hne : ∀ c t, wr.heap[cb]? = some (.cells c t (0, 0)) → t ≠ 103 ∧ t ≠ 99) : St w (wr.setCell ⟨cb, j, none⟩ u) kk L m kv vv := by
  have ne : ∀ (k : Nat) (e : TypeId) (cur : Array Value), wr.heap[k]? = some (.cells cur e (0, 0)) → (e = 103 ∨ e = 99) → k ≠ cb := fun k e cur hk he hkc => by
    subst hkc
    have h2 := hne cur e hk
    rcases he with rfl | rfl
    · exact h2.1 rfl
    · exact h2.2 rfl
  have blk : ∀ k, k ≠ cb → (wr.setCell ⟨cb, j, none⟩ u).heap[k]? = wr.heap[k]? := fun k hk => Below.heap_setCell _ _ _ _ hk
  refine ⟨?_, ?_, fun i hi => ?_, fun i hi => (h.mp i hi).of_block (blk _ (by omega)), own_of_block h.ks (fun k hk => ?_), own_of_block h.vs (fun k hk => ?_), h.nd, h.wf, h.bel.setCell (by simp; omega) _, by simpa using h.sz, h.len⟩
  · rw [World.cell?_of_block (w := wr) (blk _ (by simp; omega))]; exact h.sim
  · rw [World.cell?_of_block (w := wr) (blk _ (by simp; omega))]; exact h.hon
  · rw [World.cell?_of_block (w := wr) (blk _ (by simp; omega))]; exact h.dl i hi
  · rcases h.ks.2 with ⟨rfl, _⟩ | ⟨g, cap, cur, rfl, _, hg, _⟩
    · cases hk
    · cases hk; exact blk _ (ne g 103 cur hg (.inl rfl))
  · rcases h.vs.2 with ⟨rfl, _⟩ | ⟨g, cap, cur, rfl, _, hg, _⟩
    · cases hk
    · cases hk; exact blk _ (ne g 99 cur hg (.inr rfl))

/-- What zzs6216aput hands back, its two slices written out. -/
theorem put_shape (kv vv : Value) (L : List Ent) (n b v : Int) (base : Nat) (w : World) (hL : L.length ≤ 1100) (hnd : (keysOf L).Nodup)
    (hk : w.ownsRow base 103 2 kv L.length (kCells L)) (hv : w.ownsRow base 99 1 vv L.length (vCells L)) (hbase : base ≤ w.heap.size) :
    Calls Yba.prog 6 #[kv, vv, .agg #[.int .i64 n, .int .i64 b], .int .u8 v] w fun e w' => ∃ g kc h vc L', Put L n b v L' ∧ e = .returned (.tuple #[.slice (some ⟨g, 0, none⟩) L'.length kc, .slice (some ⟨h, 0, none⟩) L'.length vc]) ∧
      w'.ownsRow base 103 2 (.slice (some ⟨g, 0, none⟩) L'.length kc) L'.length (kCells L') ∧ w'.ownsRow base 99 1 (.slice (some ⟨h, 0, none⟩) L'.length vc) L'.length (vCells L') ∧ Below base w w' := by
  refine (put_any kv vv L n b v base w hL hnd hk hv hbase).mono ?_
  rintro e w' ⟨kv', vv', L', hP, rfl, hk', hv', hb⟩
  have h0 : L'.length ≠ 0 := by
    rcases hP with ⟨i, hi, _, rfl⟩ | ⟨_, rfl⟩
    · simp; intro e; subst e; simp at hi
    · simp
  have hk2 := hk'
  have hv2 := hv'
  rcases hk'.2 with ⟨_, e⟩ | ⟨g, kc, cur, rfl, _⟩
  · exact absurd e h0
  rcases hv'.2 with ⟨_, e⟩ | ⟨h, vc, cur2, rfl, _⟩
  · exact absurd e h0
  exact ⟨g, kc, h, vc, L', hP, rfl, hk2, hv2, hb⟩

theorem cntN_take (L : List Ent) (t : Nat) (e : Ent) (h : L[t]? = some e) (i : Int) : cntN (L.take (t + 1)) i = cntN (L.take t) i + if i = e.1 then 1 else 0 := by
  unfold cntN keysOf
  rw [List.take_add_one, h]
  simp only [Option.toList, List.map_append, List.countP_append, List.map_cons, List.map_nil]
  by_cases hi : i = e.1
  · simp [hi, keyE]
  · have : ¬ e.1 = i := fun x => hi x.symm
    simp [hi, this, keyE]
theorem cntN_le (L : List Ent) (i : Int) : cntN L i ≤ L.length := Nat.le_trans List.countP_le_length (by simp [keysOf])

set_option maxRecDepth 100000 in
set_option maxHeartbeats 4000000 in
theorem law_A (nodes nn : Int) (kk : Nat) (bb hh : Int) (pb po n cap : Nat) (E : Nat → Ent) (w : World) (hkk : 1 ≤ kk) (hkk8 : kk ≤ 8) (hk : nodes % 8 + 1 = (kk : Int)) (hn0 : 0 ≤ nodes) (hn1 : nodes ≤ 255)
    (hnn0 : 0 ≤ nn) (hnn1 : nn ≤ 255) (hbb0 : 0 ≤ bb) (hbb1 : bb ≤ 4294967295) (hhw : (Lit.int .u8 hh).wf = true) (hnp : 0 < n) (hnb : n ≤ 1024) (hpb : pb < w.heap.size)
    (hE : ∀ i, i < n → w.cell? ⟨pb, po + i * 3, none⟩ = some (.int .u8 (E i).1) ∧ w.cell? ⟨pb, po + i * 3 + 1, none⟩ = some (.int .u32 (E i).2.1) ∧ w.cell? ⟨pb, po + i * 3 + 2, none⟩ = some (.int .u8 (E i).2.2))
    (hEw : ∀ i, i < n → 0 ≤ (E i).1 ∧ (E i).1 ≤ 255 ∧ 0 ≤ (E i).2.1 ∧ (E i).2.1 ≤ 4294967295 ∧ (Lit.int .u8 (E i).2.2).wf = true) :
    Calls Yba.prog 3 #[.int .u8 nodes, .int .u8 nn, .int .u32 bb, .int .u8 hh, .slice (some ⟨pb, po, none⟩) n cap] w fun e w' => e = .returned (.bool true) ∧ Below w.heap.size w w' := by
  obtain ⟨C, hC⟩ := simFacts
  have hmm := @run_makeMap Yba.prog
  have hmk := make_dl kk hkk8
  obtain ⟨cb, c1, c2⟩ := hC w.heap.size kk
  clear hC
  go_enter Yba.func3, Yba.ntmps3
  go_wp2_with (first
    | (refine wpList_build1 _ rfl 84 31 _ rfl (.slice (some ⟨w.heap.size, 0, none⟩) kk kk) rfl _ (cb _) ?_)
    | go_in)
  clear hk
  go_loopw [13] (fun i wr => ∃ k : Nat, k ≤ kk ∧ i = .int .i64 k ∧ St1 w wr kk k) (fun i _ => kk - (intOf i).toNat)
  case atStart => exact ⟨0, Nat.zero_le _, rfl, St1.start w kk _ c1 c2⟩
  case round =>
    rename World => w1
    obtain ⟨k, hk, rfl, hI⟩ := hrel
    clear hmk cb c1 c2
    have HI : Hid (St1 w w1 kk k) := hI
    have q1 := hI.sim
    by_cases hlt : k < kk
    · have hz := hI.sz
      have hz1 : w.heap.size + 1 < w1.heap.size := by omega
      have hz2 : w.heap.size < w1.heap.size := by omega
      obtain ⟨g, hg, _⟩ := hI.dl
      have q2 := hg.cell (i := k * 8) (by omega)
      have q3 := hg.frozen (k * 8)
      clear hI hg hz
      go_wp2
      go_roundw
      case rel => exact ⟨k + 1, by omega, by go_num, by rw [← World.setCell_alloc_past _ _ _ _ (by omega)]; exact HI.out.step⟩
      case measure => simp [intOf]; omega
    · have hke : k = kk := by omega
      subst hke
      clear hI hmm
      go_wp2
      go_loopw [14, 15, 56] (fun kv vv i wr => ∃ (j : Nat) (L : List Ent), j ≤ n ∧ i = .int .i64 j ∧ St w wr k L j kv vv) (fun _ _ i _ => n - (intOf i).toNat)
      case atStart => exact ⟨0, [], Nat.zero_le _, rfl, St.start HI.out⟩
      case round =>
        rename World => w2
        obtain ⟨j, L, hj, rfl, hS⟩ := hrel
        by_cases hjn : j < n
        · obtain ⟨x, y, z, hEj⟩ : ∃ x y z, E j = (x, y, z) := ⟨_, _, _, rfl⟩
          obtain ⟨d0, d1, d2⟩ := hE j hjn
          obtain ⟨x0, x1, y0, y1, z0⟩ := hEw j hjn
          rw [hEj] at d0 d1 d2 x0 x1 y0 y1 z0
          simp only at d0 d1 d2 x0 x1 y0 y1 z0
          have e0 := (hS.bel.cell (p := ⟨pb, po + j * 3, none⟩) (by exact hpb)).trans d0
          have e1 := (hS.bel.cell (p := ⟨pb, po + j * 3 + 1, none⟩) (by exact hpb)).trans d1
          have e2 := (hS.bel.cell (p := ⟨pb, po + j * 3 + 2, none⟩) (by exact hpb)).trans d2
          obtain ⟨i, hi⟩ : ∃ i : Nat, x % (k : Int) = (i : Int) := ⟨(x % (k : Int)).toNat, by have := Int.emod_nonneg x (b := (k : Int)) (by omega); omega⟩
          have hik : i < k := by have := Int.emod_lt_of_pos x (b := (k : Int)) (by omega); omega
          have HS : Hid (St w w2 k L j u14 u15) := hS
          have hz1 : w.heap.size + 1 < w2.heap.size := by have := hS.sz; omega
          have hz2 : w.heap.size < w2.heap.size := by omega
          have s1 := hS.sim
          have s2 := hS.dl i hik
          have hmp := hS.mp i hik
          have hlen := hS.len
          clear hS d0 d1 d2 hEj q1 HI
          go_wp2_with (first
            | (at_mapUpdate; refine wpList_put rfl _ _ _ 85 rfl 99 key3 Yba.underlying85 rfl (hmp.alloc _) (by unfold maxLen; omega) _ _ _ rfl rfl (keyI_ok (b := y + 1) (by omega) (by omega)) (isKeyI _) _ _ (plainElem_int Yba.underlying99 z0) ?_; intro w3 m3 g3)
            | (go_at_call 6; refine (put_shape u14 u15 L (i : Int) (y + 1) z (w.heap.size + 2 + k) _ (by omega) HS.out.nd ?_ ?_ ?_).mono ?_; (exact own_of_block (HS.out.ks.alloc (.cells #[.int .u8 x, .int .u32 y, .int .u8 z] 98)) (fun q hq => g3.block q ((HS.out.ks.alloc (.cells #[.int .u8 x, .int .u32 y, .int .u8 z] 98)).lt q hq).2 (by have := (HS.out.ks.lt q hq).1; simp; omega))); (exact own_of_block (HS.out.vs.alloc (.cells #[.int .u8 x, .int .u32 y, .int .u8 z] 98)) (fun q hq => g3.block q ((HS.out.vs.alloc (.cells #[.int .u8 x, .int .u32 y, .int .u8 z] 98)).lt q hq).2 (by have := (HS.out.vs.lt q hq).1; simp; omega))); (have h1 := HS.out.sz; have h2 := g3.size; simp at h2; omega); rintro e w4 ⟨g, kc, h, vc, L', hP, rfl, k4, v4, b4⟩))
          go_roundw
          case rel => exact ⟨j + 1, L', by omega, by go_num, (HS.out.later ((Below.refl _ _).alloc (Nat.le_refl _) _)).step hik (by omega) (by omega) z0 m3 g3 hP k4 v4 b4⟩
          case measure => simp [intOf]; omega
        · have hjn' : j = n := by omega
          subst hjn'
          obtain ⟨i, hi⟩ : ∃ i : Nat, nn % (k : Int) = (i : Int) := ⟨(nn % (k : Int)).toNat, by have := Int.emod_nonneg nn (b := (k : Int)) (by omega); omega⟩
          have hik : i < k := by have := Int.emod_lt_of_pos nn (b := (k : Int)) (by omega); omega
          have HS : Hid (St w w2 k L j u14 u15) := hS
          have hlen := hS.len
          have hmk2 := run_make_row' (P := Yba.prog) 50 3 (.int .i64 0) 8 Yba.underlying50 info3 rfl .i64 .i64 k (by omega) (by omega)
          clear hS q1 HI hE hEw
          go_wp2_with (first
            | (go_at_call 6; refine (put_shape u14 u15 L (i : Int) (bb + 1) hh (w.heap.size + 2 + k) _ (by omega) HS.out.nd HS.out.ks HS.out.vs HS.out.sz).mono ?_; rintro e w4 ⟨g, kc, h, vc, L', hP, rfl, k4, v4, b4⟩)
            | (go_at_call 7; refine (set_any (w.heap.size + 1) w.heap.size k i (w.heap.size + 2 + i) j (cntN L i) (fL L i) (bb + 1) hh _ hik hkk8 (by omega) (by omega) hhw (by omega) ((b4.cell (by simp; omega)).trans HS.out.hon) ((b4.cell (by simp; omega)).trans HS.out.sim) ((b4.cell (by simp; omega)).trans (HS.out.dl i hik)) ((HS.out.mp i hik).of_block (b4.block _ (by omega)))).mono ?_; rintro e w5 ⟨rfl, m5, g5⟩; have HT : Hid (St w w5 k L' (j + 1) (.slice (some ⟨g, 0, none⟩) L'.length kc) (.slice (some ⟨h, 0, none⟩) L'.length vc)) := HS.out.step' hik (by omega) (by omega) hhw hP k4 v4 b4 m5 g5))
          have hL1 : L'.length ≤ 1025 := by have := HT.out.len; omega
          go_loopw [25] (fun i wr => ∃ t : Nat, t ≤ L'.length ∧ i = .int .i64 t ∧ St w wr k L' (j + 1) (.slice (some ⟨g, 0, none⟩) L'.length kc) (.slice (some ⟨h, 0, none⟩) L'.length vc) ∧ wr.rowIs w5.heap.size 3 k (fun q => .int .i64 (cntN (L'.take t) q))) (fun i _ => L'.length - (intOf i).toNat)
          case atStart => exact ⟨0, Nat.zero_le _, rfl, HT.out.later ((Below.refl _ _).alloc (Nat.le_refl _) _), (World.rowIs_made w5 (.int .i64 0) k 3).congr (fun q _ => by simp [cntN, keysOf])⟩
          case round =>
            rename World => w6
            obtain ⟨t, ht, rfl, hU, hrow⟩ := hrel
            have HU : Hid (St w w6 k L' (j + 1) (.slice (some ⟨g, 0, none⟩) L'.length kc) (.slice (some ⟨h, 0, none⟩) L'.length vc)) := hU
            have HR : Hid (w6.rowIs w5.heap.size 3 k (fun q => .int .i64 (cntN (L'.take t) q))) := hrow
            have hcb : w.heap.size + 2 + k ≤ w5.heap.size := HT.out.sz
            have hcl := hrow.lt
            clear hmk2 hi
            by_cases htl : t < L'.length
            · obtain ⟨⟨en, eb, ev⟩, he⟩ : ∃ e, L'[t]? = some e := ⟨L'[t], List.getElem?_eq_getElem htl⟩
              obtain ⟨f0, f1, f2, f3, f4⟩ := hU.wf _ (List.mem_of_getElem? he)
              simp only at f0 f1 f2 f3 f4
              obtain ⟨q, rfl⟩ := Int.eq_ofNat_of_zero_le f0
              have hqk : q < k := by omega
              have hkc := kCells_at L' t _ he
              have c0 : w6.cell? ⟨g, t * 2, none⟩ = some (.int .i64 (q : Int)) := by rw [hU.ks.cellAt (t * 2) (by omega)]; exact hkc.1
              have c1 : w6.cell? ⟨g, t * 2 + 1, none⟩ = some (.int .i64 eb) := by rw [hU.ks.cellAt (t * 2 + 1) (by omega)]; exact hkc.2
              have c2 : w6.cell? ⟨h, t, none⟩ = some (.int .u8 ev) := by rw [hU.vs.cellAt t (by omega)]; simp [vCells, he]
              have c3 : w6.cell? ⟨w5.heap.size, q, none⟩ = some (.int .i64 (cntN (L'.take t) q)) := hrow.cell hqk
              have c4 : w6.frozen? ⟨w5.heap.size, q, none⟩ = false := hrow.frozen q
              have hcn : cntN (L'.take t) q ≤ 1025 := by have := cntN_le (L'.take t) q; have := List.length_take_le t L'; omega
              have HE : Hid (L'[t]? = some ((q : Int), eb, ev)) := he
              clear hU hrow he hkc f0
              go_wp2
              have hne : ∀ c t, w6.heap[w5.heap.size]? = some (.cells c t (0, 0)) → t ≠ 103 ∧ t ≠ 99 := fun c t' hc => by
                obtain ⟨c', hc', _⟩ := HR.out
                rw [hc'] at hc
                simp at hc
                rw [← hc.2]
                decide
              have X1 := HU.out.setOther w5.heap.size q (.int .i64 ((cntN (L'.take t) q : Int) + 1)) hcb hne
              have X2 := X1.later ((Below.refl _ (w6.setCell ⟨w5.heap.size, q, none⟩ (.int .i64 ((cntN (L'.take t) q : Int) + 1)))).alloc (Nat.le_refl _) (.cells #[.int .i64 (q : Int), .int .i64 eb] 103))
              have X3 := (HR.out.set q (.int .i64 ((cntN (L'.take t) q : Int) + 1))).alloc (.cells #[.int .i64 (q : Int), .int .i64 eb] 103)
              have X4 : ((w6.setCell ⟨w5.heap.size, q, none⟩ (.int .i64 ((cntN (L'.take t) q : Int) + 1))).alloc (.cells #[.int .i64 (q : Int), .int .i64 eb] 103)).cell? ⟨w6.heap.size, 0, none⟩ = some (.int .i64 (q : Int)) := by rw [World.cell?_alloc_at _ _ _ _ (by simp)]; rfl
              have X5 : ((w6.setCell ⟨w5.heap.size, q, none⟩ (.int .i64 ((cntN (L'.take t) q : Int) + 1))).alloc (.cells #[.int .i64 (q : Int), .int .i64 eb] 103)).cell? ⟨w6.heap.size, 1, none⟩ = some (.int .i64 eb) := by rw [World.cell?_alloc_at _ _ _ _ (by simp)]; rfl
              clear X1
              obtain ⟨w7, hw7⟩ : ∃ w7, w7 = (w6.setCell ⟨w5.heap.size, q, none⟩ (.int .i64 ((cntN (L'.take t) q : Int) + 1))).alloc (.cells #[.int .i64 (q : Int), .int .i64 eb] 103) := ⟨_, rfl⟩
              rw [← hw7] at X2 X3 X4 X5 ⊢
              clear hw7 c0 c1 c2 c3 c4 hne
              have HX : Hid (St w w7 k L' (j + 1) (.slice (some ⟨g, 0, none⟩) L'.length kc) (.slice (some ⟨h, 0, none⟩) L'.length vc)) := X2
              have c2 : w7.cell? ⟨h, t, none⟩ = some (.int .u8 ev) := by rw [X2.vs.cellAt t (by omega)]; simp [vCells, HE.out]
              have Y1 := X2.sim
              have Y2 := X2.dl q hqk
              have Y3 := fun nq => (X2.later (below_drewN' (Below.refl _ w7) nq)).mp q hqk |>.look2_hit key3 Yba.underlying85 zero99 (plainElem_int Yba.underlying99 (by decide)) (keyI_ok f2 f3) (d := .lit (.int .u8 ev)) (by show (look L' q eb).map _ = _; rw [look_at L' X2.nd t _ HE.out]; rfl) (u8_inv ev)
              have b1 : (0 : Int) ≤ (q : Int) := by omega
              have b2 : (q : Int) < (k : Int) := by omega
              have HR7 : Hid (w7.rowIs w5.heap.size 3 k (fun r => .int .i64 (cntN (L'.take (t + 1)) r))) := X3.congr (fun r _ => by
                rw [cntN_take L' t _ HE.out]
                by_cases hr : r = q
                · subst hr; simp
                · have : ¬ (r : Int) = (q : Int) := by omega
                  simp [hr, this])
              clear X2 X3
              go_quiet (fail)
              go_wp2
              go_roundw
              case rel => exact ⟨t + 1, by omega, by go_num, HX.out.later (below_drewN' (Below.refl _ w7) nq), HR7.out.of_block rfl⟩
              case measure => simp [intOf]; omega
            · have hte : t = L'.length := by omega
              subst hte
              rw [List.take_length] at hrow
              have HR : Hid (w6.rowIs w5.heap.size 3 k (fun r => .int .i64 (cntN L' r))) := hrow
              clear hU hrow
              go_wp2
              go_loopw [29] (fun i wr => ∃ t : Nat, t ≤ k ∧ i = .int .i64 t ∧ Below w6.heap.size w6 wr) (fun i _ => k - (intOf i).toNat)
              case atStart => exact ⟨0, Nat.zero_le _, rfl, Below.refl _ _⟩
              case round =>
                rename World => w8
                obtain ⟨r, hr, rfl, hb8⟩ := hrel
                have HX : Hid (St w w8 k L' (j + 1) (.slice (some ⟨g, 0, none⟩) L'.length kc) (.slice (some ⟨h, 0, none⟩) L'.length vc)) := HU.out.later hb8
                by_cases hrk : r < k
                · have Y1 := HX.out.sim
                  have Y2 := HX.out.dl r hrk
                  have Y3 := fun ty nq => (HX.out.later (below_drewN' (Below.refl _ w8) nq)).mp r hrk |>.len Yba.underlying85 ty
                  have Y4 : w8.cell? ⟨w5.heap.size, r, none⟩ = some (.int .i64 (cntN L' r)) := (hb8.cell (by exact hcl)).trans (HR.out.cell hrk)
                  have b1 : (0 : Int) ≤ (r : Int) := by omega
                  have b2 : (r : Int) < (k : Int) := by omega
                  go_wp2
                  go_quiet (fail)
                  go_wp2
                  go_roundw
                  case rel => exact ⟨r + 1, by omega, by go_num, hb8.trans (below_drewN' (Below.refl _ w8) nq |>.mono hb8.size)⟩
                  case measure => simp [intOf]; omega
                · have Y1 := HX.out.hon
                  go_wp2
                  go_ret
                  exact ⟨rfl, HX.out.bel⟩
end Go.Proofs.Ybulkdxsc
