/- 'Rows.LawS6218AWholeSaid': the frame is the shells' own (proof-skeleton's make), turned to a slice of bools and a slice of ints. -/
import Derived.Test.YbulkdxteALaw
import Derived.ProofKit
import Derived.OpenShut
import Derived.ShutString
import Derived.SliceStrings
import Derived.ChangeOld
import Derived.Below
namespace Go.Proofs.Ybulkdxte.lawS6218AWhole
open Go.ChangeShapes Go.WideShapes Go.ChangeAt Go.RowKit

theorem own : ownKnob Yba.prog.godebug = none := by kernel_rfl
theorem laidOut : laidOutB Yba.prog = true := by kernel_rfl
theorem cells3 : Yba.prog.cellsOf 3 = 1 := by kernel_rfl
theorem cells4 : Yba.prog.cellsOf 4 = 1 := by kernel_rfl

theorem trod_bool {H : Type} {enc : TypeId × Value → H} {P : Program} {w : World} {base : Nat} {spare : Nat → Bool} {held : Bool} {fuel : Nat} {t : TypeId} {cs : List Value} {x : DataW H × List MemPlace}
    (ht : P.underlying t = some .bool) (h : DataW.trod enc P w base spare held fuel t cs = some x) : ∃ n, cs = [.bool n] := by
  cases fuel with
  | zero => simp [DataW.trod] at h
  | succ n =>
    unfold DataW.trod at h
    rw [ht] at h
    split at h <;> simp_all
theorem trod_int {H : Type} {enc : TypeId × Value → H} {P : Program} {w : World} {base : Nat} {spare : Nat → Bool} {held : Bool} {fuel : Nat} {t : TypeId} {cs : List Value} {x : DataW H × List MemPlace} {k : IntKind}
    (ht : P.underlying t = some (.int k)) (h : DataW.trod enc P w base spare held fuel t cs = some x) : ∃ n, cs = [.int k n] := by
  cases fuel with
  | zero => simp [DataW.trod] at h
  | succ n =>
    unfold DataW.trod at h
    rw [ht] at h
    split at h <;> simp_all

def IsBools (w : World) (a : Option Addr) (l : List Bool) : Prop := ∀ (j : Nat) b, l[j]? = some b → ∃ ab ao, a = some ⟨ab, ao, none⟩ ∧ ab < w.heap.size ∧ w.cell? ⟨ab, ao + j, none⟩ = some (.bool b)
def IsInts (w : World) (a : Option Addr) (l : List Int) : Prop := ∀ (j : Nat) v, l[j]? = some v → ∃ cb co, a = some ⟨cb, co, none⟩ ∧ cb < w.heap.size ∧ w.cell? ⟨cb, co + j, none⟩ = some (.int .i64 v)

theorem each_bool {W : World} {x : Addr} {len : Nat} (each : ∀ i, i < len → ∃ v, W.cell? (x.add i) = some (.bool v)) : ∃ l : List Bool, l.length = len ∧ IsBools W (some x) l := by
  refine ⟨(List.range len).map fun i => match W.cell? (x.add i) with | some (.bool v) => v | _ => false, by simp, fun j b hj => ?_⟩
  have hjl : j < len := by have := (List.getElem?_eq_some_iff.1 hj).1; simpa using this
  obtain ⟨v, hv⟩ := each j hjl
  simp only [List.getElem?_map, List.getElem?_range hjl, Option.map_some, Option.some.injEq, hv] at hj
  subst hj
  obtain ⟨_, hv0⟩ := each 0 (by omega)
  obtain ⟨b, off, spot⟩ := x
  have hspot : spot = none := by simpa [Addr.add] using World.cell?_spot hv0
  subst hspot
  rw [add_plain] at hv
  exact ⟨b, off, rfl, World.block_lt_of_cell? _ _ hv, hv⟩
theorem each_int {W : World} {x : Addr} {len : Nat} (each : ∀ i, i < len → ∃ v, W.cell? (x.add i) = some (.int .i64 v)) : ∃ l : List Int, l.length = len ∧ IsInts W (some x) l := by
  refine ⟨(List.range len).map fun i => match W.cell? (x.add i) with | some (.int _ v) => v | _ => 0, by simp, fun j b hj => ?_⟩
  have hjl : j < len := by have := (List.getElem?_eq_some_iff.1 hj).1; simpa using this
  obtain ⟨v, hv⟩ := each j hjl
  simp only [List.getElem?_map, List.getElem?_range hjl, Option.map_some, Option.some.injEq, hv] at hj
  subst hj
  obtain ⟨_, hv0⟩ := each 0 (by omega)
  obtain ⟨b, off, spot⟩ := x
  have hspot : spot = none := by simpa [Addr.add] using World.cell?_spot hv0
  subst hspot
  rw [add_plain] at hv
  exact ⟨b, off, rfl, World.block_lt_of_cell? _ _ hv, hv⟩

theorem bools_of {H : Type} {enc : TypeId × Value → H} {W : World} {a : Option Addr} {len cap : Nat} {d : DataW H} {p : List MemPlace} (h : DataW.Trod enc Yba.prog W 0 (fun _ => true) true 22 (.slice a len cap) d p) :
    ∃ l : List Bool, l.length = len ∧ IsBools W a l ∧ len ≤ maxLen := by
  obtain ⟨fuel, hf⟩ := h
  rcases DataW.trod_slice Yba.underlying22 hf with ⟨hcs, _⟩ | ⟨x, l, c, elems, rest, n, _, hcs, _, _, hl, hm, hlen, hel, _, _⟩
  · simp [Value.cells] at hcs
    obtain ⟨rfl, rfl, rfl⟩ := hcs
    exact ⟨[], rfl, fun j b hj => by simp at hj, Nat.zero_le _⟩
  · simp [Value.cells] at hcs
    obtain ⟨rfl, rfl, rfl⟩ := hcs
    have each : ∀ i, i < len → ∃ v, W.cell? (x.add i) = some (.bool v) := by
      intro i hi
      have hy := hel i hi
      rw [List.getElem?_eq_getElem (by omega), cells4, Nat.mul_one, Option.bind_eq_some_iff] at hy
      obtain ⟨cs', hcs, hy'⟩ := hy
      obtain ⟨v, rfl⟩ := trod_bool Yba.underlying4 hy'
      exact ⟨v, cell_of_cells?_one hcs⟩
    obtain ⟨l, h1, h2⟩ := each_bool each
    exact ⟨l, h1, h2, Nat.le_trans hl hm⟩

theorem ints_of {H : Type} {enc : TypeId × Value → H} {W : World} {a : Option Addr} {len cap : Nat} {d : DataW H} {p : List MemPlace} (h : DataW.Trod enc Yba.prog W 0 (fun _ => true) true 23 (.slice a len cap) d p) :
    ∃ l : List Int, l.length = len ∧ IsInts W a l ∧ len ≤ maxLen ∧ (a = none → len = 0 ∧ cap = 0) := by
  obtain ⟨fuel, hf⟩ := h
  rcases DataW.trod_slice Yba.underlying23 hf with ⟨hcs, _⟩ | ⟨x, l, c, elems, rest, n, _, hcs, _, _, hl, hm, hlen, hel, _, _⟩
  · simp [Value.cells] at hcs
    obtain ⟨rfl, rfl, rfl⟩ := hcs
    exact ⟨[], rfl, fun j b hj => by simp at hj, Nat.zero_le _, fun _ => ⟨rfl, rfl⟩⟩
  · simp [Value.cells] at hcs
    obtain ⟨rfl, rfl, rfl⟩ := hcs
    have each : ∀ i, i < len → ∃ v, W.cell? (x.add i) = some (.int .i64 v) := by
      intro i hi
      have hy := hel i hi
      rw [List.getElem?_eq_getElem (by omega), cells3, Nat.mul_one, Option.bind_eq_some_iff] at hy
      obtain ⟨cs', hcs, hy'⟩ := hy
      obtain ⟨v, rfl⟩ := trod_int Yba.underlying3 hy'
      exact ⟨v, cell_of_cells?_one hcs⟩
    obtain ⟨l, h1, h2⟩ := each_int each
    exact ⟨l, h1, h2, Nat.le_trans hl hm, fun h => by cases h⟩

theorem law_any (a0 : Option Addr) (n cap0 : Nat) (ans : List Bool) (a1 : Option Addr) (m cap1 : Nat) (cs : List Int) (w : World) (hn : ans.length = n) (h0 : IsBools w a0 ans) (hn2 : n ≤ maxLen) (hm : cs.length = m) (h1 : IsInts w a1 cs) (hm2 : m ≤ maxLen) (hz : a1 = none → m = 0 ∧ cap1 = 0) :
    Calls Yba.prog 3 #[.slice a0 n cap0, .slice a1 m cap1] w fun e w' => e = .returned (.bool true) ∧ Below w.heap.size w w' := by
  by_cases hb : 65536 < (n : Int)
  · exact law_big a0 n cap0 a1 m cap1 w hb hn2 hm2
  by_cases hb2 : 65536 < (m : Int)
  · exact law_big2 a0 n cap0 a1 m cap1 w hb hb2 hn2 hm2
  subst hn
  cases a1 with
  | none =>
    obtain ⟨rfl, rfl⟩ := hz rfl
    exact law_A_nil ans a0 cap0 w (by omega) h0
  | some x =>
    subst hm
    exact law_A ans cs a0 cap0 x cap1 w (by omega) (by omega) h0 (fun j v hj => by obtain ⟨cb, co, e, h⟩ := h1 j v hj; cases e; exact ⟨cb, co, rfl, h⟩)

set_option maxRecDepth 100000 in
theorem lifted (os : Os) (started : os.Started) (H : Type) (enc : TypeId × Value → H) :
    ReturnsInHanded {} Yba.checked os 3 .any (Rows.lawS6218AWholeSpec.pre6 enc Yba.prog Yba.f3 Rows.lawS6218AWholeRow.domain false) (Rows.lawS6218AWholeSpec.post enc Yba.prog Yba.f3 false true false false) := by
  refine returnsInHanded_of_change (C := Yba.checked) own started (by kernel_rfl) Yba.func3
    (ChangeSpec.witness6 (enc := enc) (C := Yba.checked) false ⟨#[], #[.slice none 0 0, .slice none 0 0], []⟩ 8 (by kernel_rfl) (by kernel_rfl) (by kernel_rfl) (by kernel_rfl)) ?_
  intro W base args ds gs before hval0 hW hcnd _
  have hval : ∀ (j : Nat) t v, Yba.f3.params[j]? = some t → args[j]? = some v → Value.okWide Yba.prog W .any base t v := hval0
  have hW' := hW
  obtain ⟨p, q, hA0, hV, rfl, hfz, hnd⟩ := hW
  have hA : DataW.TrodAll enc Yba.prog W 0 (fun _ => true) true Yba.f3.params.toList args.toList ds p := hA0
  rw [Yba.params3] at hA hval
  obtain ⟨v0, vs0, d0, ds0, p0, q0, hargs, rfl, rfl, h0, r0⟩ := trodAll_cons hA
  obtain ⟨v1, vs1, d1, ds1, p1, q1, rfl, rfl, rfl, h1, r1⟩ := trodAll_cons r0
  obtain ⟨rfl, rfl, rfl⟩ := trodAll_nil r1
  obtain rfl : args = #[v0, v1] := by cases args; simp_all
  obtain ⟨rfl, rfl⟩ := trodVars_none hV
  obtain ⟨a0, len0, cap0, rfl⟩ := okWide_slice Yba.underlying22 (hval 0 22 v0 rfl rfl)
  have k0 := h0
  have lt0 : ∀ x ∈ p0, x.block < W.heap.size := by obtain ⟨m, hm⟩ := k0; exact DataW.trod_lt m _ _ _ hm
  obtain ⟨a1, len1, cap1, rfl⟩ := okWide_slice Yba.underlying23 (hval 1 23 v1 rfl rfl)
  have k1 := h1
  have lt1 : ∀ x ∈ p1, x.block < W.heap.size := by obtain ⟨m, hm⟩ := k1; exact DataW.trod_lt m _ _ _ hm
  obtain ⟨S, hSl, hS, hSm⟩ := bools_of h0
  obtain ⟨T, hTl, hT, hTm, hTz⟩ := ints_of h1
  clear hA0 hval0
  refine (law_any a0 len0 cap0 S a1 len1 cap1 T W hSl hS hSm hTl hT hTm hTz).mono fun e W' ⟨he, bel⟩ => ?_
  subst he
  exact ⟨_, rfl, _, _, _, [], _, [], hW', trodAll_mk1 (shut_bool Yba.underlying4 _), (trodAll_cons_mk (Below.trod laidOut (by kernel_rfl) (of_decide_eq_true (by kernel_rfl)) k0 bel lt0) (trodAll_cons_mk (Below.trod laidOut (by kernel_rfl) (of_decide_eq_true (by kernel_rfl)) k1 bel lt1) trodAll_mk0)), rfl, bel.frame _, fun h => by cases h⟩

theorem over : Rows.lawS6218AWholeRow.holds Yba.pinned (OpenSpec.ofChange Rows.lawS6218AWholeSpec) :=
  OpenClaim.holds_of_wide 3 Yba.f3 rfl rfl rfl rfl rfl rfl rfl ⟨rfl, rfl, rfl, rfl, rfl⟩ rfl rfl rfl rfl rfl (by kernel_rfl) Yba.func3 (by kernel_rfl)
    (of_decide_eq_true (by kernel_rfl)) (by unfold Func.isWrapper; first | (rw [if_pos (by decide +kernel)]; kernel_rfl) | (rw [if_neg (by decide +kernel)]; exact ⟨rfl, rfl⟩))
    (fun os started H enc _ => lifted os started H enc)

theorem proved : Rows.LawS6218AWholeSaid := over
end Go.Proofs.Ybulkdxte.lawS6218AWhole
