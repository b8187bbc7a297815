/- LawS6216APart: zzs6216aput by its contract. -/
import Derived.Test.YbulkdxscRows
import Derived.Test.YbulkdxscAPlain
import Derived.WalkKit
import Derived.WalkSpells
import Derived.WalkLawsBesides
import Derived.BigQuiet
import Derived.Deep.QuietTactic
import Derived.Deep.Draws
import Derived.Deep.OwnRows
namespace Go.Proofs.Ybulkdxsc
set_option linter.unusedVariables false
open Go.RowKit Go.Maps

def kCells (L : List Ent) : List Value := L.flatMap fun e => [.int .i64 e.1, .int .i64 e.2.1]
def vCells (L : List Ent) : List Value := L.map fun e => .int .u8 e.2.2
theorem kCells_len (L : List Ent) : (kCells L).length = L.length * 2 := by
  induction L with
  | nil => rfl
  | cons x r ih => simp [kCells] at ih ⊢; omega
theorem kCells_at (L : List Ent) : ∀ (i : Nat) (e : Ent), L[i]? = some e → (kCells L)[i * 2]? = some (.int .i64 e.1) ∧ (kCells L)[i * 2 + 1]? = some (.int .i64 e.2.1) := by
  induction L with
  | nil => intro i e h; simp at h
  | cons x r ih =>
    intro i e h
    cases i with
    | zero => simp at h; subst h; simp [kCells]
    | succ i =>
      simp at h
      have := ih i e h
      have e1 : (i + 1) * 2 = i * 2 + 1 + 1 := by omega
      have e2 : kCells (x :: r) = .int .i64 x.1 :: .int .i64 x.2.1 :: kCells r := by simp [kCells]
      rw [e1, e2]
      simpa using this
theorem kCells_app (L : List Ent) (e : Ent) : kCells (L ++ [e]) = kCells L ++ [.int .i64 e.1, .int .i64 e.2.1] := by simp [kCells]
theorem kCells_set (L : List Ent) : ∀ (i : Nat) (n b v : Int), (keysOf L)[i]? = some (n, b) → kCells (L.set i (n, b, v)) = kCells L := by
  induction L with
  | nil => intro i n b v h; simp [keysOf] at h
  | cons x r ih =>
    intro i n b v h
    cases i with
    | zero =>
      simp [keysOf, keyE] at h
      obtain ⟨h1, h2⟩ := h
      simp [kCells, h1, h2]
    | succ i =>
      have := ih i n b v (by simpa [keysOf] using h)
      simp [kCells] at this ⊢
      exact this
theorem vCells_app (L : List Ent) (e : Ent) : vCells (L ++ [e]) = vCells L ++ [.int .u8 e.2.2] := by simp [vCells]
theorem vCells_set (L : List Ent) (i : Nat) (n b v : Int) : vCells (L.set i (n, b, v)) = (vCells L).set i (.int .u8 v) := by simp [vCells, List.map_set]

theorem info103 : (Yba.prog.info? 103).map (fun i => (i.zero, i.size, i.bytes)) = some (some (.agg #[.int .i64 0, .int .i64 0]), 2, 16) := by kernel_rfl
theorem info99 : (Yba.prog.info? 99).map (fun i => (i.zero, i.size, i.bytes)) = some (some (.int .u8 0), 1, 1) := by kernel_rfl

theorem fields103 : Yba.prog.underlying 103 = some (.struct (Yba.prog.fieldsOf 103)) := by kernel_rfl
theorem stood103 : Yba.prog.stoodInHeld 103 = false := by kernel_rfl
theorem guard103 : Yba.prog.eqGuardType Yba.prog.depth 103 = false := by kernel_rfl
/-- Two keys compared. -/
theorem eql_key (a b c d : Int) (w : World) : (binOp .eql 103 (.agg #[.int .i64 a, .int .i64 b]) (.agg #[.int .i64 c, .int .i64 d])).run Yba.prog w = .ok (.bool (a == c && b == d)) w := by
  rw [run_eql_struct, run_equalIn_struct w 9999 103 _ _ fields103 stood103]
  have h3 := run_underlying (P := Yba.prog) (w := w) Yba.underlying3
  by_cases h1 : a = c <;> by_cases h2 : b = d <;> simp [go_sem, h1, h2]

theorem own_ne {w : World} {b1 b2 : Nat} {e1 e2 : TypeId} {s1 s2 : Nat} {v1 v2 : Value} {n1 n2 : Nat} {x1 x2 : List Value} (h1 : w.ownsRow b1 e1 s1 v1 n1 x1) (h2 : w.ownsRow b2 e2 s2 v2 n2 x2) (hne : e1 ≠ e2) : v1.ownBlock = none ∨ v1.ownBlock ≠ v2.ownBlock := by
  rcases h1.2 with ⟨rfl, _⟩ | ⟨g, cap, cur, rfl, _, hg, _⟩
  · exact .inl rfl
  · rcases h2.2 with ⟨rfl, _⟩ | ⟨g2, cap2, cur2, rfl, _, hg2, _⟩
    · exact .inr (by simp [Value.ownBlock])
    · refine .inr (fun e => ?_)
      simp [Value.ownBlock] at e
      subst e
      rw [hg] at hg2
      simp at hg2
      exact hne hg2.2
theorem own_of_block {w w' : World} {base : Nat} {e : TypeId} {size : Nat} {v : Value} {n : Nat} {xs : List Value} (h : w.ownsRow base e size v n xs) (hb : ∀ k, v.ownBlock = some k → w'.heap[k]? = w.heap[k]?) : w'.ownsRow base e size v n xs := by
  obtain ⟨hl, h⟩ := h
  refine ⟨hl, ?_⟩
  rcases h with h | ⟨g, cap, cur, rfl, h1, hg, r⟩
  · exact .inl h
  · exact .inr ⟨g, cap, cur, rfl, h1, (hb g rfl).trans hg, r⟩

theorem drewN2 (w : World) (a b : Nat) : (w.drewN a).drewN b = w.drewN (a + b) := by simp [World.drewN, Nat.add_assoc]
theorem below_drewN' {B : Nat} {a w : World} (h : Below B a w) (n : Nat) : Below B a (w.drewN n) := ⟨h.os, h.tape, h.output, h.size, h.block⟩
/-- What zzs6216aput leaves. -/
def PutPost (base : Nat) (L : List Ent) (n b v : Int) (w : World) (e : Ending) (w' : World) : Prop :=
  ∃ kv' vv' L', Put L n b v L' ∧ e = .returned (.tuple #[kv', vv']) ∧ w'.ownsRow base 103 2 kv' L'.length (kCells L') ∧ w'.ownsRow base 99 1 vv' L'.length (vCells L') ∧ Below base w w'

theorem two_new (w : World) (x y : Value) (t : TypeId) : ∀ j u, [x, y][j]? = some u → (w.alloc (.cells #[x, y] t)).cell? ((⟨w.heap.size, 0, none⟩ : Addr).add j) = some u := by
  intro j u hj
  match j, hj with
  | 0, hj => simp at hj; subst hj; simp [Addr.add]
  | 1, hj => simp at hj; subst hj; simp [Addr.add]

set_option maxHeartbeats 800000 in
theorem put_empty (ka : Option Addr) (kc : Nat) (vv : Value) (n b v : Int) (base : Nat) (w : World) (hk : w.ownsRow base 103 2 (.slice ka 0 kc) 0 []) (hv : w.ownsRow base 99 1 vv 0 []) (hbase : base ≤ w.heap.size) :
    Calls Yba.prog 6 #[.slice ka 0 kc, vv, .agg #[.int .i64 n, .int .i64 b], .int .u8 v] w (PutPost base [] n b v w) := by
  obtain ⟨i0, hi, hz0, hz1, hz2⟩ := info_parts info103
  obtain ⟨j0, hj, hy0, hy1, hy2⟩ := info_parts info99
  go_enter Yba.func6, Yba.ntmps6
  go_wp2
  refine wp_loop_rounds 1 ?_
  rw [rounds_succ]
  go_wp2_with (first
    | (at_builtin; refine wpList_append_own _ rfl _ _ 95 rfl base 103 i0 (.agg #[.int .i64 0, .int .i64 0]) 2 16 Yba.underlying95 hi hz0 hz1 hz2 rfl (by decide) _ 0 [] rfl ((hk.alloc _).alloc _) ⟨w.heap.size + 1, 0, none⟩ 1 1 [.int .i64 n, .int .i64 b] rfl rfl ?_ ?_ (by unfold maxLen; omega) (by omega) (by simp; omega) ?_; rotate_right; intro kv' w1 hk1 hg1 _)
    | (at_builtin; refine wpList_append_own _ rfl _ _ 96 rfl base 99 j0 (.int .u8 0) 1 1 Yba.underlying96 hj hy0 hy1 hy2 rfl (by decide) _ 0 [] rfl ((((hv.alloc _).alloc _).kept hg1 (own_ne hv hk (by decide))).alloc _) ⟨w1.heap.size, 0, none⟩ 1 1 [.int .u8 v] rfl rfl (cell_one_new _ _ _) (ints_oneCell .u8 [v]) (by unfold maxLen; omega) (by omega) (by have := hg1.size; simp at this ⊢; omega) ?_; intro vv' w2 hv2 hg2 _)
    | go_in)
  · go_ret2
    have hvx := ((hv.alloc (.cells #[.int .i64 n, .int .i64 b] 103)).alloc (.cells #[.int .i64 n, .int .i64 b] 103)).kept hg1 (own_ne hv hk (by decide))
    have s1 := hg1.size
    simp at s1
    refine ⟨kv', vv', [(n, b, v)], .inr ⟨by simp [keysOf], rfl⟩, rfl, ?_, ?_, ?_⟩
    · have := (hk1.alloc (.cells #[.int .u8 v] 99)).kept hg2 (own_ne hk1 hvx (by decide))
      simpa [kCells] using this
    · simpa [vCells] using hv2
    · exact Below.grown (Below.alloc (Below.grown (((Below.refl _ _).alloc hbase _).alloc (by simp; omega) _) hg1 (by simp; omega) (fun k hk' => (hk.lt k hk').1)) (by omega) _) hg2 (by simp; omega) (fun k hk' => (hv.lt k hk').1)
  · have := two_new (w.alloc (.cells #[.int .i64 n, .int .i64 b] 103)) (.int .i64 n) (.int .i64 b) 103
    simpa using this
  · intro u hu
    simp at hu
    rcases hu with rfl | rfl <;> rfl

set_option maxHeartbeats 1000000 in
theorem put_some (g kc h vc : Nat) (L : List Ent) (n b v : Int) (base : Nat) (w : World) (hL0 : 0 < L.length) (hL : L.length ≤ 1100) (hnd : (keysOf L).Nodup)
    (hk : w.ownsRow base 103 2 (.slice (some ⟨g, 0, none⟩) L.length kc) L.length (kCells L)) (hv : w.ownsRow base 99 1 (.slice (some ⟨h, 0, none⟩) L.length vc) L.length (vCells L)) (hbase : base ≤ w.heap.size) :
    Calls Yba.prog 6 #[.slice (some ⟨g, 0, none⟩) L.length kc, .slice (some ⟨h, 0, none⟩) L.length vc, .agg #[.int .i64 n, .int .i64 b], .int .u8 v] w (PutPost base L n b v w) := by
  obtain ⟨i0, hi, hz0, hz1, hz2⟩ := info_parts info103
  obtain ⟨j0, hj, hy0, hy1, hy2⟩ := info_parts info99
  have hgl := (hk.lt g rfl).2
  have hhl := (hv.lt h rfl).2
  have hgb := (hk.lt g rfl).1
  have hhb := (hv.lt h rfl).1
  have hgh : g ≠ h := by
    rcases own_ne hk hv (by decide) with h' | h'
    · simp [Value.ownBlock] at h'
    · simpa [Value.ownBlock] using h'
  obtain ⟨len, hlen⟩ : ∃ len, len = L.length := ⟨_, rfl⟩
  rw [← hlen] at hk hv hL0 hL ⊢
  have HL : Hid (len = L.length) := hlen
  clear hlen
  go_enter Yba.func6, Yba.ntmps6
  go_wp2
  go_loopw [10] (fun i wr => ∃ (t nq : Nat), t ≤ len ∧ i = .int .i64 t ∧ (∀ j, j < t → (keysOf L)[j]? ≠ some (n, b)) ∧ wr = (w.alloc (.cells #[.int .i64 n, .int .i64 b] 103)).drewN nq) (fun i _ => len - (intOf i).toNat)
  case atStart => exact ⟨0, 0, Nat.zero_le _, rfl, fun j hj => by omega, rfl⟩
  case round =>
    obtain ⟨t, nq0, ht, rfl, hno, rfl⟩ := hrel
    have HN : Hid (∀ j, j < t → (keysOf L)[j]? ≠ some (n, b)) := hno
    clear hno
    by_cases hlt : t < len
    · obtain ⟨⟨en, eb, ev⟩, he⟩ : ∃ e, L[t]? = some e := ⟨L[t]'(by have := HL.out; omega), List.getElem?_eq_getElem _⟩
      have hc := kCells_at L t _ he
      have c0 : w.cell? ⟨g, t * 2, none⟩ = some (.int .i64 en) := by rw [hk.cellAt (t * 2) (by omega)]; exact hc.1
      have c1 : w.cell? ⟨g, t * 2 + 1, none⟩ = some (.int .i64 eb) := by rw [hk.cellAt (t * 2 + 1) (by omega)]; exact hc.2
      have c2 : w.cell? ⟨h, t, none⟩ = some (.int .u8 ev) := by rw [hv.cellAt t (by omega)]; simp [vCells, he]
      have c3 : w.frozen? ⟨h, t, none⟩ = false := hv.frozenAt t
      have HE : Hid (L[t]? = some (en, eb, ev)) := he
      have b1 : (0 : Int) ≤ (t : Int) := by omega
      have b2 : (t : Int) < (len : Int) := by omega
      have hq := guard103
      clear hc he hi hz0 hz1 hz2 hj hy0 hy1 hy2
      by_cases hke : en = n ∧ eb = b
      · obtain ⟨rfl, rfl⟩ := hke
        have hq1 : ∀ w : World, (binOp .eql 103 (.agg #[.int .i64 en, .int .i64 eb]) (.agg #[.int .i64 en, .int .i64 eb])).run Yba.prog w = .ok (.bool true) w := fun w => by rw [eql_key]; simp
        go_wp2
        go_quiet (fail)
        go_wp2
        go_ret2
        have hkt : (keysOf L)[t]? = some (en, eb) := by simp [keysOf, HE.out, keyE]
        have htl : t < L.length := by have := HL.out; omega
        refine ⟨_, _, L.set t (en, eb, v), .inl ⟨t, htl, hkt, rfl⟩, rfl, ?_, ?_, ?_⟩
        · show World.ownsRow _ base 103 2 (.slice (some ⟨g, 0, none⟩) len kc) _ _
          rw [List.length_set, ← HL.out, kCells_set L t en eb v hkt]
          refine own_of_block hk (fun k hk' => ?_)
          cases hk'
          rw [Below.heap_setCell _ _ _ _ hgh]
          exact Below.heap_alloc _ _ _ hgl
        · show World.ownsRow _ base 99 1 (.slice (some ⟨h, 0, none⟩) len vc) _ _
          rw [List.length_set, ← HL.out, vCells_set]
          have h1 : ((w.alloc (.cells #[.int .i64 en, .int .i64 eb] 103)).drewN (nq0 + nq)).ownsRow base 99 1 (.slice (some ⟨h, 0, none⟩) len vc) len (vCells L) := own_of_block (hv.alloc (.cells #[.int .i64 en, .int .i64 eb] 103)) (fun _ _ => rfl)
          exact (h1.stored t _).1
        · exact Below.setCell (B := base) (a := w) (w := (w.alloc (.cells #[.int .i64 en, .int .i64 eb] 103)).drewN (nq0 + nq)) (below_drewN' ((Below.refl _ _).alloc hbase _) _) (by exact hhb) _
      · have hq1 : ∀ w : World, (binOp .eql 103 (.agg #[.int .i64 en, .int .i64 eb]) (.agg #[.int .i64 n, .int .i64 b])).run Yba.prog w = .ok (.bool false) w := fun w => by
          rw [eql_key]
          have : (en == n && eb == b) = false := by
            rw [Bool.and_eq_false_iff]
            by_cases h1 : en = n
            · exact .inr (by simpa using fun h2 => hke ⟨h1, h2⟩)
            · exact .inl (by simpa using h1)
          rw [this]
        have HK : Hid (¬ (en = n ∧ eb = b)) := hke
        clear hke
        go_wp2
        go_quiet (fail)
        go_wp2
        go_roundw
        case rel =>
          refine ⟨t + 1, _, by omega, by go_num, fun j hj => ?_, by first | rfl | exact drewN2 _ _ _⟩
          by_cases hjt : j = t
          · subst hjt
            simp [keysOf, HE.out, keyE]
            exact fun h1 h2 => HK.out ⟨h1, h2⟩
          · exact HN.out j (by omega)
        case measure => simp [intOf]; omega
    · have hte : t = len := by omega
      subst hte
      go_wp2_with (first
        | (at_builtin; refine wpList_append_own _ rfl _ _ 95 rfl base 103 i0 (.agg #[.int .i64 0, .int .i64 0]) 2 16 Yba.underlying95 hi hz0 hz1 hz2 rfl (by decide) _ t (kCells L) rfl ?_ ⟨w.heap.size + 1, 0, none⟩ 1 1 [.int .i64 n, .int .i64 b] rfl rfl ?_ ?_ (by unfold maxLen; omega) (by omega) (by simp; omega) ?_; rotate_right; intro kv' w1 hk1 hg1 _)
        | (at_builtin; refine wpList_append_own _ rfl _ _ 96 rfl base 99 j0 (.int .u8 0) 1 1 Yba.underlying96 hj hy0 hy1 hy2 rfl (by decide) _ t (vCells L) rfl ?_ ⟨w1.heap.size, 0, none⟩ 1 1 [.int .u8 v] rfl rfl (cell_one_new _ _ _) (ints_oneCell .u8 [v]) (by unfold maxLen; omega) (by omega) (by have := hg1.size; simp at this ⊢; omega) ?_; rotate_right; intro vv' w2 hv2 hg2 _)
        | go_in)
      · go_ret2
        have hvx : w1.ownsRow base 99 1 (.slice (some ⟨h, 0, none⟩) t vc) t (vCells L) := (own_of_block ((hv.alloc (.cells #[.int .i64 n, .int .i64 b] 103)).alloc (.cells #[.int .i64 n, .int .i64 b] 103)) (fun _ _ => rfl) : ((((w.alloc (.cells #[.int .i64 n, .int .i64 b] 103)).drewN nq0).alloc (.cells #[.int .i64 n, .int .i64 b] 103))).ownsRow base 99 1 _ t (vCells L)).kept hg1 (.inr (fun e => hgh (Option.some.inj e).symm))
        have s1 := hg1.size
        simp at s1
        have hLt := HL.out
        refine ⟨kv', vv', L ++ [(n, b, v)], .inr ⟨?_, rfl⟩, rfl, ?_, ?_, ?_⟩
        · intro hm
          obtain ⟨j, hj⟩ := List.getElem?_of_mem hm
          have : j < (keysOf L).length := (List.getElem?_eq_some_iff.1 hj).1
          exact HN.out j (by simp [keysOf] at this; omega) hj
        · have := (hk1.alloc (.cells #[.int .u8 v] 99)).kept hg2 (own_ne hk1 hvx (by decide))
          rw [kCells_app, List.length_append, ← hLt]
          exact this
        · rw [vCells_app, List.length_append, ← hLt]
          exact hv2
        · exact Below.grown (Below.alloc (Below.grown (Below.alloc (below_drewN' ((Below.refl _ _).alloc hbase _) nq0) (by simp; omega) _) hg1 (by simp; omega) (fun k hk' => (hk.lt k hk').1)) (by omega) _) hg2 (by simp; omega) (fun k hk' => (hv.lt k hk').1)
      · exact ((own_of_block ((hv.alloc (.cells #[.int .i64 n, .int .i64 b] 103)).alloc (.cells #[.int .i64 n, .int .i64 b] 103)) (fun _ _ => rfl) : ((((w.alloc (.cells #[.int .i64 n, .int .i64 b] 103)).drewN nq0).alloc (.cells #[.int .i64 n, .int .i64 b] 103))).ownsRow base 99 1 _ t (vCells L)).kept hg1 (.inr (fun e => hgh (Option.some.inj e).symm))).alloc _
      · exact own_of_block ((hk.alloc (.cells #[.int .i64 n, .int .i64 b] 103)).alloc (.cells #[.int .i64 n, .int .i64 b] 103)) (fun _ _ => rfl)
      · have := two_new ((w.alloc (.cells #[.int .i64 n, .int .i64 b] 103)).drewN nq0) (.int .i64 n) (.int .i64 b) 103
        simpa using this
      · intro u hu
        simp at hu
        rcases hu with rfl | rfl <;> rfl

theorem put_any (kv vv : Value) (L : List Ent) (n b v : Int) (base : Nat) (w : World) (hL : L.length ≤ 1100) (hnd : (keysOf L).Nodup)
    (hk : w.ownsRow base 103 2 kv L.length (kCells L)) (hv : w.ownsRow base 99 1 vv L.length (vCells L)) (hbase : base ≤ w.heap.size) :
    Calls Yba.prog 6 #[kv, vv, .agg #[.int .i64 n, .int .i64 b], .int .u8 v] w (PutPost base L n b v w) := by
  by_cases h0 : L.length = 0
  · obtain rfl : L = [] := List.eq_nil_of_length_eq_zero h0
    have hk' := hk
    rcases hk.2 with ⟨rfl, _⟩ | ⟨g, cap, cur, rfl, _⟩
    · exact put_empty none 0 vv n b v base w hk' hv hbase
    · exact put_empty (some ⟨g, 0, none⟩) cap vv n b v base w hk' hv hbase
  · have hk' := hk
    have hv' := hv
    rcases hk.2 with ⟨_, e⟩ | ⟨g, cap, cur, rfl, _⟩
    · exact absurd e h0
    rcases hv.2 with ⟨_, e⟩ | ⟨h, cap2, cur2, rfl, _⟩
    · exact absurd e h0
    exact put_some g cap h cap2 L n b v base w (by omega) hL hnd hk' hv' hbase
end Go.Proofs.Ybulkdxsc
