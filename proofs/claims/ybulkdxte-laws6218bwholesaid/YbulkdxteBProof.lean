/- 'Rows.LawS6218BWholeSaid': the frame is the shells' own (proof-skeleton's make), turned to two slices of uint32s, two of bools, four bools. -/
import Derived.Test.YbulkdxteBLaw
import Derived.ProofKit
import Derived.OpenShut
import Derived.ShutString
import Derived.SliceStrings
import Derived.ChangeOld
import Derived.Below
import Derived.SizedLaws
namespace Go.Proofs.Ybulkdxte.lawS6218BWhole
open Go.ChangeShapes Go.WideShapes Go.ChangeAt Go.RowKit

theorem own : ownKnob Yba.prog.godebug = none := by kernel_rfl
theorem laidOut : laidOutB Yba.prog = true := by kernel_rfl
theorem cells4 : Yba.prog.cellsOf 4 = 1 := by kernel_rfl
theorem cells43 : Yba.prog.cellsOf 43 = 1 := by kernel_rfl
theorem bytes4 : Yba.prog.bytesOf 4 = 1 := by kernel_rfl
theorem bytes43 : Yba.prog.bytesOf 43 = 4 := by kernel_rfl

/-- A datum that is a slice of n elements, or nil and n is nought. -/
def Long {H : Type} (d : DataW H) (n : Nat) : Prop := n = 0 ∨ ∃ elems spare, d = .slice elems spare ∧ elems.length = n

theorem bools_of {H : Type} {enc : TypeId × Value → H} {W : World} {a : Option Addr} {len cap : Nat} {d : DataW H} {p : List MemPlace} (h : DataW.Trod enc Yba.prog W 0 (fun _ => true) true 22 (.slice a len cap) d p) :
    ∃ P : Nat → Bool, Bools W a len P ∧ Long d len := by
  obtain ⟨fuel, hf⟩ := h
  rcases DataW.trod_slice Yba.underlying22 hf with ⟨hcs, _⟩ | ⟨x, l, c, elems, rest, n, _, hcs, hx, _, hl, hm, hlen, hel, _, _⟩
  · simp [Value.cells] at hcs
    obtain ⟨rfl, rfl, rfl⟩ := hcs
    exact ⟨fun _ => false, fun j hj => by omega, Or.inl rfl⟩
  · simp [Value.cells] at hcs
    obtain ⟨rfl, rfl, rfl⟩ := hcs
    have each : ∀ i, i < len → ∃ v, W.cell? (x.add i) = some (.bool v) := by
      intro i hi
      have hy := hel i hi
      rw [List.getElem?_eq_getElem (by omega), cells4, Nat.mul_one, Option.bind_eq_some_iff] at hy
      obtain ⟨cs', hcs, hy'⟩ := hy
      obtain ⟨v, rfl, _⟩ := DataW.trod_bool Yba.underlying4 hy'
      exact ⟨v, cell_of_cells?_one hcs⟩
    refine ⟨fun i => match W.cell? (x.add i) with | some (.bool v) => v | _ => false, fun j hj => ?_, Or.inr ⟨_, _, (Prod.mk.inj hx).1, by simpa using hlen⟩⟩
    obtain ⟨v, hv⟩ := each j hj
    obtain ⟨_, hv0⟩ := each 0 (by omega)
    obtain ⟨b, off, spot⟩ := x
    have hspot : spot = none := by simpa [Addr.add] using World.cell?_spot hv0
    subst hspot
    simp only [hv]
    rw [add_plain] at hv
    exact ⟨b, off, rfl, World.block_lt_of_cell? _ _ hv, hv⟩

theorem u32s_of {H : Type} {enc : TypeId × Value → H} {W : World} {a : Option Addr} {len cap : Nat} {d : DataW H} {p : List MemPlace} (h : DataW.Trod enc Yba.prog W 0 (fun _ => true) true 42 (.slice a len cap) d p) :
    ∃ P : Nat → Int, U32s W a len P ∧ Long d len := by
  obtain ⟨fuel, hf⟩ := h
  rcases DataW.trod_slice Yba.underlying42 hf with ⟨hcs, _⟩ | ⟨x, l, c, elems, rest, n, _, hcs, hx, _, hl, hm, hlen, hel, _, _⟩
  · simp [Value.cells] at hcs
    obtain ⟨rfl, rfl, rfl⟩ := hcs
    exact ⟨fun _ => 0, fun j hj => by omega, Or.inl rfl⟩
  · simp [Value.cells] at hcs
    obtain ⟨rfl, rfl, rfl⟩ := hcs
    have each : ∀ i, i < len → ∃ v, W.cell? (x.add i) = some (.int .u32 v) ∧ 0 ≤ v ∧ v < 4294967296 := by
      intro i hi
      have hy := hel i hi
      rw [List.getElem?_eq_getElem (by omega), cells43, Nat.mul_one, Option.bind_eq_some_iff] at hy
      obtain ⟨cs', hcs, hy'⟩ := hy
      obtain ⟨v, rfl, _, hwf⟩ := DataW.trod_int Yba.underlying43 hy'
      exact ⟨v, cell_of_cells?_one hcs, by
        have e1 : IntKind.u32.min = 0 := by decide
        have e2 : IntKind.u32.max = 4294967295 := by decide
        simp only [Lit.wf, e1, e2, Bool.and_eq_true, decide_eq_true_eq] at hwf
        omega⟩
    refine ⟨fun i => match W.cell? (x.add i) with | some (.int _ v) => v | _ => 0, fun j hj => ?_, Or.inr ⟨_, _, (Prod.mk.inj hx).1, by simpa using hlen⟩⟩
    obtain ⟨v, hv, hv1, hv2⟩ := each j hj
    obtain ⟨_, hv0, _⟩ := each 0 (by omega)
    obtain ⟨b, off, spot⟩ := x
    have hspot : spot = none := by simpa [Addr.add] using World.cell?_spot hv0
    subst hspot
    simp only [hv]
    rw [add_plain] at hv
    exact ⟨b, off, rfl, World.block_lt_of_cell? _ _ hv, hv, hv1, hv2⟩

set_option maxRecDepth 10000 in
theorem law_big (l0 l1 l2 l3 c0 c1 c2 c3 : Nat) (a0 a1 a2 a3 : Option Addr) (vn en vg eg : Bool) (w : World) (h0 : l0 ≤ 140737488355328) (h1 : l1 ≤ 140737488355328) (h2 : l2 ≤ 140737488355328) (h3 : l3 ≤ 140737488355328) (hsum : (1048576 : Int) < (l0 : Int) + (l1 : Int) + (l2 : Int) + (l3 : Int)) :
    Calls Yba.prog 4 #[.slice a0 l0 c0, .slice a1 l1 c1, .slice a2 l2 c2, .slice a3 l3 c3, .bool vn, .bool en, .bool vg, .bool eg] w fun e w' => e = .returned (.bool true) ∧ Below w.heap.size w w' := by
  go_enter Yba.func4, Yba.ntmps4
  go_wp2
  go_ret
  exact ⟨rfl, Below.refl _ _⟩

theorem law_any (l0 l1 l2 l3 c0 c1 c2 c3 : Nat) (a0 a1 a2 a3 : Option Addr) (PV PE : Nat → Int) (Pv Pe : Nat → Bool) (vn en vg eg : Bool) (w : World) (h0 : l0 ≤ 140737488355328) (h1 : l1 ≤ 140737488355328) (h2 : l2 ≤ 140737488355328) (h3 : l3 ≤ 140737488355328)
    (hV : U32s w a0 l0 PV) (hE : U32s w a1 l1 PE) (hA : Bools w a2 l2 Pv) (hB : Bools w a3 l3 Pe) :
    Calls Yba.prog 4 #[.slice a0 l0 c0, .slice a1 l1 c1, .slice a2 l2 c2, .slice a3 l3 c3, .bool vn, .bool en, .bool vg, .bool eg] w fun e w' => e = .returned (.bool true) ∧ Below w.heap.size w w' := by
  by_cases hb : (1048576 : Int) < (l0 : Int) + (l1 : Int) + (l2 : Int) + (l3 : Int)
  · exact law_big l0 l1 l2 l3 c0 c1 c2 c3 a0 a1 a2 a3 vn en vg eg w h0 h1 h2 h3 hb
  · obtain ⟨kk, hk⟩ : ∃ kk, kk = if l1 = 0 then 1 else l1 := ⟨_, rfl⟩
    have hpos : 0 < kk := by rw [hk]; split <;> omega
    obtain ⟨m, hm⟩ : ∃ m, kk = m + 1 := ⟨kk - 1, by omega⟩
    exact law_B l0 l1 l2 l3 c0 c1 c2 c3 kk m _ _ a0 a1 a2 a3 PV PE Pv Pe vn en vg eg w (by omega) (by omega) (by omega) (by omega) hb rfl rfl hm hk hV hE hA hB

set_option maxRecDepth 100000 in
theorem lifted (os : Os) (started : os.Started) (H : Type) (enc : TypeId × Value → H) :
    ReturnsInHanded {} Yba.checked os 4 .any (Rows.lawS6218BWholeSpec.pre6 enc Yba.prog Yba.f4 Rows.lawS6218BWholeRow.domain false) (Rows.lawS6218BWholeSpec.post enc Yba.prog Yba.f4 false true false false) := by
  refine returnsInHanded_of_change_sized (C := Yba.checked) own started (by kernel_rfl) Yba.func4
    (ChangeSpec.witness6 (enc := enc) (C := Yba.checked) false ⟨#[], #[.slice none 0 0, .slice none 0 0, .slice none 0 0, .slice none 0 0, .bool false, .bool false, .bool false, .bool false], []⟩ 8 (by kernel_rfl) (by kernel_rfl) (by kernel_rfl) (by kernel_rfl)) ?_
  intro W base args ds gs before hval0 hW hcnd hsz _
  have hval : ∀ (j : Nat) t v, Yba.f4.params[j]? = some t → args[j]? = some v → Value.okWide Yba.prog W .any base t v := hval0
  have hW' := hW
  obtain ⟨p, q, hA0, hV, rfl, hfz, hnd⟩ := hW
  have hA : DataW.TrodAll enc Yba.prog W 0 (fun _ => true) true Yba.f4.params.toList args.toList ds p := hA0
  have hsz' : (DataW.weightsEach Yba.prog (Yba.f4.params.toList ++ Rows.lawS6218BWholeSpec.plain.varTypes Yba.prog) (ds ++ gs)).all (· ≤ reachBytes) = true := hsz
  rw [Yba.params4] at hA hval hsz'
  obtain ⟨v0, vs0, d0, ds0, p0, q0, hargs, rfl, rfl, h0, r0⟩ := trodAll_cons hA
  obtain ⟨v1, vs1, d1, ds1, p1, q1, rfl, rfl, rfl, h1, r1⟩ := trodAll_cons r0
  obtain ⟨v2, vs2, d2, ds2, p2, q2, rfl, rfl, rfl, h2, r2⟩ := trodAll_cons r1
  obtain ⟨v3, vs3, d3, ds3, p3, q3, rfl, rfl, rfl, h3, r3⟩ := trodAll_cons r2
  obtain ⟨v4, vs4, d4, ds4, p4, q4, rfl, rfl, rfl, h4, r4⟩ := trodAll_cons r3
  obtain ⟨v5, vs5, d5, ds5, p5, q5, rfl, rfl, rfl, h5, r5⟩ := trodAll_cons r4
  obtain ⟨v6, vs6, d6, ds6, p6, q6, rfl, rfl, rfl, h6, r6⟩ := trodAll_cons r5
  obtain ⟨v7, vs7, d7, ds7, p7, q7, rfl, rfl, rfl, h7, r7⟩ := trodAll_cons r6
  obtain ⟨rfl, rfl, rfl⟩ := trodAll_nil r7
  obtain rfl : args = #[v0, v1, v2, v3, v4, v5, v6, v7] := by cases args; simp_all
  obtain ⟨rfl, rfl⟩ := trodVars_none hV
  obtain ⟨a0, len0, cap0, rfl⟩ := okWide_slice Yba.underlying42 (hval 0 42 v0 rfl rfl)
  have k0 := h0
  have lt0 : ∀ x ∈ p0, x.block < W.heap.size := by obtain ⟨m, hm⟩ := k0; exact DataW.trod_lt m _ _ _ hm
  obtain ⟨a1, len1, cap1, rfl⟩ := okWide_slice Yba.underlying42 (hval 1 42 v1 rfl rfl)
  have k1 := h1
  have lt1 : ∀ x ∈ p1, x.block < W.heap.size := by obtain ⟨m, hm⟩ := k1; exact DataW.trod_lt m _ _ _ hm
  obtain ⟨a2, len2, cap2, rfl⟩ := okWide_slice Yba.underlying22 (hval 2 22 v2 rfl rfl)
  have k2 := h2
  have lt2 : ∀ x ∈ p2, x.block < W.heap.size := by obtain ⟨m, hm⟩ := k2; exact DataW.trod_lt m _ _ _ hm
  obtain ⟨a3, len3, cap3, rfl⟩ := okWide_slice Yba.underlying22 (hval 3 22 v3 rfl rfl)
  have k3 := h3
  have lt3 : ∀ x ∈ p3, x.block < W.heap.size := by obtain ⟨m, hm⟩ := k3; exact DataW.trod_lt m _ _ _ hm
  obtain ⟨b4, rfl, rfl, rfl⟩ := open_bool Yba.underlying4 (hval 4 4 v4 rfl rfl) h4
  obtain ⟨b5, rfl, rfl, rfl⟩ := open_bool Yba.underlying4 (hval 5 4 v5 rfl rfl) h5
  obtain ⟨b6, rfl, rfl, rfl⟩ := open_bool Yba.underlying4 (hval 6 4 v6 rfl rfl) h6
  obtain ⟨b7, rfl, rfl, rfl⟩ := open_bool Yba.underlying4 (hval 7 4 v7 rfl rfl) h7
  obtain ⟨P0, hP0, L0⟩ := u32s_of h0
  obtain ⟨P1, hP1, L1⟩ := u32s_of h1
  obtain ⟨P2, hP2, L2⟩ := bools_of h2
  obtain ⟨P3, hP3, L3⟩ := bools_of h3
  have hr := reachBytes_lt
  have m0 : len0 ≤ 140737488355328 := by
    rcases L0 with h | ⟨es, sp, rfl, h⟩
    · omega
    · have := sized_slice hsz' (j := 0) (t := 42) (e := 43) rfl rfl Yba.underlying42
      rw [bytes43, h] at this; omega
  have m1 : len1 ≤ 140737488355328 := by
    rcases L1 with h | ⟨es, sp, rfl, h⟩
    · omega
    · have := sized_slice hsz' (j := 1) (t := 42) (e := 43) rfl rfl Yba.underlying42
      rw [bytes43, h] at this; omega
  have m2 : len2 ≤ 140737488355328 := by
    rcases L2 with h | ⟨es, sp, rfl, h⟩
    · omega
    · have := sized_slice hsz' (j := 2) (t := 22) (e := 4) rfl rfl Yba.underlying22
      rw [bytes4, h] at this; omega
  have m3 : len3 ≤ 140737488355328 := by
    rcases L3 with h | ⟨es, sp, rfl, h⟩
    · omega
    · have := sized_slice hsz' (j := 3) (t := 22) (e := 4) rfl rfl Yba.underlying22
      rw [bytes4, h] at this; omega
  clear hA0 hval0
  refine (law_any len0 len1 len2 len3 cap0 cap1 cap2 cap3 a0 a1 a2 a3 P0 P1 P2 P3 b4 b5 b6 b7 W m0 m1 m2 m3 hP0 hP1 hP2 hP3).mono fun e W' ⟨he, bel⟩ => ?_
  subst he
  exact ⟨_, rfl, _, _, _, [], _, [], hW', trodAll_mk1 (shut_bool Yba.underlying4 _), (trodAll_cons_mk (Below.trod laidOut (by kernel_rfl) (of_decide_eq_true (by kernel_rfl)) k0 bel lt0) (trodAll_cons_mk (Below.trod laidOut (by kernel_rfl) (of_decide_eq_true (by kernel_rfl)) k1 bel lt1) (trodAll_cons_mk (Below.trod laidOut (by kernel_rfl) (of_decide_eq_true (by kernel_rfl)) k2 bel lt2) (trodAll_cons_mk (Below.trod laidOut (by kernel_rfl) (of_decide_eq_true (by kernel_rfl)) k3 bel lt3) (trodAll_cons_mk (shut_bool Yba.underlying4 _) (trodAll_cons_mk (shut_bool Yba.underlying4 _) (trodAll_cons_mk (shut_bool Yba.underlying4 _) (trodAll_cons_mk (shut_bool Yba.underlying4 _) trodAll_mk0)))))))), rfl, bel.frame _, fun h => by cases h⟩

theorem over : Rows.lawS6218BWholeRow.holds Yba.pinned (OpenSpec.ofChange Rows.lawS6218BWholeSpec) :=
  OpenClaim.holds_of_wide 4 Yba.f4 rfl rfl rfl rfl rfl rfl rfl ⟨rfl, rfl, rfl, rfl, rfl⟩ rfl rfl rfl rfl rfl (by kernel_rfl) Yba.func4 (by kernel_rfl)
    (of_decide_eq_true (by kernel_rfl)) (by unfold Func.isWrapper; first | (rw [if_pos (by decide +kernel)]; kernel_rfl) | (rw [if_neg (by decide +kernel)]; exact ⟨rfl, rfl⟩))
    (fun os started H enc _ => lifted os started H enc)

theorem proved : Rows.LawS6218BWholeSaid := over
end Go.Proofs.Ybulkdxte.lawS6218BWhole
