/- 'Rows.LawS6216APartSaid': the frame is the shells' own (proof-skeleton's make), turned to four integers and a slice of structs. -/
import Derived.Test.YbulkdxscALawB
import Derived.ProofKit
import Derived.OpenShut
import Derived.ShutString
import Derived.ChangeOld
import Derived.Below
import Derived.Deep.Strs
namespace Go.Proofs.Ybulkdxsc.lawS6216APart
open Go.ChangeShapes Go.WideShapes Go.ChangeAt Go.RowKit

theorem own : ownKnob Yba.prog.godebug = none := by kernel_rfl
theorem laidOut : laidOutB Yba.prog = true := by kernel_rfl
theorem cells98 : Yba.prog.cellsOf 98 = 3 := by kernel_rfl
theorem cells5 : Yba.prog.cellsOf 5 = 1 := by kernel_rfl
theorem cells22 : Yba.prog.cellsOf 22 = 1 := by kernel_rfl

def IsEnts (w : World) (a : Option Addr) (len : Nat) (E : Nat → Ent) : Prop :=
  len = 0 ∨ ∃ b off, a = some ⟨b, off, none⟩ ∧ 0 < len ∧ b < w.heap.size ∧
    (∀ i, i < len → w.cell? ⟨b, off + i * 3, none⟩ = some (.int .u8 (E i).1) ∧ w.cell? ⟨b, off + i * 3 + 1, none⟩ = some (.int .u32 (E i).2.1) ∧ w.cell? ⟨b, off + i * 3 + 2, none⟩ = some (.int .u8 (E i).2.2)) ∧
    (∀ i, i < len → 0 ≤ (E i).1 ∧ (E i).1 ≤ 255 ∧ 0 ≤ (E i).2.1 ∧ (E i).2.1 ≤ 4294967295 ∧ (Lit.int .u8 (E i).2.2).wf = true)

theorem law_any (nodes nn bb hh : Int) (pa : Option Addr) (n cap : Nat) (E : Nat → Ent) (w : World) (h1 : IsEnts w pa n E) (hm : n ≤ maxLen)
    (hn0 : 0 ≤ nodes) (hn1 : nodes ≤ 255) (hnn0 : 0 ≤ nn) (hnn1 : nn ≤ 255) (hbb0 : 0 ≤ bb) (hbb1 : bb ≤ 4294967295) (hhw : (Lit.int .u8 hh).wf = true) :
    Calls Yba.prog 3 #[.int .u8 nodes, .int .u8 nn, .int .u32 bb, .int .u8 hh, .slice pa n cap] w fun e w' => e = .returned (.bool true) ∧ Below w.heap.size w w' := by
  by_cases hbig : 1024 < (n : Int)
  · exact law_big nodes nn bb hh pa n cap w hbig hm
  obtain ⟨kk, hkk⟩ := Int.eq_ofNat_of_zero_le (show 0 ≤ nodes % 8 + 1 by omega)
  rcases h1 with rfl | ⟨b, off, rfl, hn, hb, hE, hEw⟩
  · exact law_B nodes nn kk bb hh pa cap w (by omega) (by omega) hkk hn0 hn1 hnn0 hnn1 hbb0 hbb1 hhw
  · exact law_A nodes nn kk bb hh b off n cap E w (by omega) (by omega) hkk hn0 hn1 hnn0 hnn1 hbb0 hbb1 hhw hn (by omega) hb hE hEw

theorem list3 {α : Type} {l : List α} (h : l.length = 3) : ∃ a b c, l = [a, b, c] := by
  match l, h with
  | [a, b, c], _ => exact ⟨a, b, c, rfl⟩
def intAt (W : World) (a : Addr) : Int := match W.cell? a with | some (.int _ n) => n | _ => 0

theorem ents_of {H : Type} {enc : TypeId × Value → H} {W : World} {a : Option Addr} {len cap : Nat} {d : DataW H} {p : List MemPlace} (h : DataW.Trod enc Yba.prog W 0 (fun _ => true) true 23 (.slice a len cap) d p) :
    ∃ E : Nat → Ent, IsEnts W a len E ∧ len ≤ maxLen := by
  obtain ⟨fuel, hf⟩ := h
  rcases DataW.trod_slice Yba.underlying23 hf with ⟨hcs, _⟩ | ⟨x, l, c, elems, rest, n, _, hcs, _, _, hl, hm, hlen, hel, _, _⟩
  · simp [Value.cells] at hcs
    obtain ⟨rfl, rfl, rfl⟩ := hcs
    exact ⟨fun _ => (0, 0, 0), .inl rfl, Nat.zero_le _⟩
  · simp [Value.cells] at hcs
    obtain ⟨rfl, rfl, rfl⟩ := hcs
    have each : ∀ i, i < len → ∃ u v z, W.cell? (x.add (i * 3)) = some (.int .u8 u) ∧ W.cell? (x.add (i * 3 + 1)) = some (.int .u32 v) ∧ W.cell? (x.add (i * 3 + 2)) = some (.int .u8 z) ∧
        (Lit.int .u8 u).wf = true ∧ (Lit.int .u32 v).wf = true ∧ (Lit.int .u8 z).wf = true := by
      intro i hi
      have hy := hel i hi
      rw [List.getElem?_eq_getElem (by omega), cells98, Option.bind_eq_some_iff] at hy
      obtain ⟨cs, hcs, hy'⟩ := hy
      obtain ⟨y0, y1, y2, m, _, hcl, t0, t1, t2⟩ := Deep.trod_struct3 Yba.underlying98 hy'
      obtain ⟨_, hl3, hcell⟩ := World.cells?_some hcs
      obtain ⟨c0, c1, c2, rfl⟩ := list3 hl3
      obtain ⟨u, e0, _, wu⟩ := DataW.trod_int Yba.underlying5 t0
      obtain ⟨v, e1, _, wv⟩ := DataW.trod_int Yba.underlying22 t1
      obtain ⟨z, e2, _, wz⟩ := DataW.trod_int Yba.underlying5 t2
      simp [cells5, cells22] at e0 e1 e2
      have a0 := hcell 0 (by omega)
      have a1 := hcell 1 (by omega)
      have a2 := hcell 2 (by omega)
      rw [Addr.add_add] at a0 a1 a2
      exact ⟨u, v, z, by simpa [e0] using a0, by simpa [e1] using a1, by simpa [e2] using a2, wu, wv, wz⟩
    refine ⟨fun i => (intAt W (x.add (i * 3)), intAt W (x.add (i * 3 + 1)), intAt W (x.add (i * 3 + 2))), ?_, Nat.le_trans hl hm⟩
    by_cases h0 : len = 0
    · exact .inl h0
    · obtain ⟨u0, _, _, hc0, _⟩ := each 0 (by omega)
      obtain ⟨b, off, spot⟩ := x
      have hspot : spot = none := by simpa [Addr.add] using World.cell?_spot hc0
      subst hspot
      refine .inr ⟨b, off, rfl, by omega, ?_, fun i hi => ?_, fun i hi => ?_⟩
      · simpa [Addr.add] using World.block_lt_of_cell? _ _ hc0
      · obtain ⟨u, v, z, e0, e1, e2, _⟩ := each i hi
        have i0 : intAt W ((⟨b, off, none⟩ : Addr).add (i * 3)) = u := by simp [intAt, e0]
        have i1 : intAt W ((⟨b, off, none⟩ : Addr).add (i * 3 + 1)) = v := by simp [intAt, e1]
        have i2 : intAt W ((⟨b, off, none⟩ : Addr).add (i * 3 + 2)) = z := by simp [intAt, e2]
        simp only [i0, i1, i2]
        rw [add_plain] at e0 e1 e2
        exact ⟨e0, by rw [Nat.add_assoc]; exact e1, by rw [Nat.add_assoc]; exact e2⟩
      · obtain ⟨u, v, z, e0, e1, e2, wu, wv, wz⟩ := each i hi
        have i0 : intAt W ((⟨b, off, none⟩ : Addr).add (i * 3)) = u := by simp [intAt, e0]
        have i1 : intAt W ((⟨b, off, none⟩ : Addr).add (i * 3 + 1)) = v := by simp [intAt, e1]
        have i2 : intAt W ((⟨b, off, none⟩ : Addr).add (i * 3 + 2)) = z := by simp [intAt, e2]
        simp only [i0, i1, i2]
        have b1 := bounds_u8 wu
        have b2 := bounds_u32 wv
        exact ⟨b1.1, b1.2, b2.1, b2.2, wz⟩

set_option maxRecDepth 100000 in
theorem lifted (os : Os) (started : os.Started) (H : Type) (enc : TypeId × Value → H) :
    ReturnsInHanded {} Yba.checked os 3 .any (Rows.lawS6216APartSpec.pre6 enc Yba.prog Yba.f3 Rows.lawS6216APartRow.domain false) (Rows.lawS6216APartSpec.post enc Yba.prog Yba.f3 false true false false) := by
  refine returnsInHanded_of_change (C := Yba.checked) own started (by kernel_rfl) Yba.func3
    (ChangeSpec.witness6 (enc := enc) (C := Yba.checked) false ⟨#[], #[.int .u8 0, .int .u8 0, .int .u32 0, .int .u8 0, .slice none 0 0], []⟩ 8 (by kernel_rfl) (by kernel_rfl) (by kernel_rfl) (by kernel_rfl)) ?_
  intro W base args ds gs before hval0 hW hcnd _
  have hval : ∀ (j : Nat) t v, Yba.f3.params[j]? = some t → args[j]? = some v → Value.okWide Yba.prog W .any base t v := hval0
  have hW' := hW
  obtain ⟨p, q, hA0, hV, rfl, hfz, hnd⟩ := hW
  have hA : DataW.TrodAll enc Yba.prog W 0 (fun _ => true) true Yba.f3.params.toList args.toList ds p := hA0
  rw [Yba.params3] at hA hval
  obtain ⟨v0, vs0, d0, ds0, p0, q0, hargs, rfl, rfl, h0, r0⟩ := trodAll_cons hA
  obtain ⟨v1, vs1, d1, ds1, p1, q1, rfl, rfl, rfl, h1, r1⟩ := trodAll_cons r0
  obtain ⟨v2, vs2, d2, ds2, p2, q2, rfl, rfl, rfl, h2, r2⟩ := trodAll_cons r1
  obtain ⟨v3, vs3, d3, ds3, p3, q3, rfl, rfl, rfl, h3, r3⟩ := trodAll_cons r2
  obtain ⟨v4, vs4, d4, ds4, p4, q4, rfl, rfl, rfl, h4, r4⟩ := trodAll_cons r3
  obtain ⟨rfl, rfl, rfl⟩ := trodAll_nil r4
  obtain rfl : args = #[v0, v1, v2, v3, v4] := by cases args; simp_all
  obtain ⟨rfl, rfl⟩ := trodVars_none hV
  obtain ⟨a0, rfl, rfl, rfl, w0⟩ := open_int Yba.underlying5 (hval 0 5 v0 rfl rfl) h0
  obtain ⟨a1, rfl, rfl, rfl, w1⟩ := open_int Yba.underlying5 (hval 1 5 v1 rfl rfl) h1
  obtain ⟨a2, rfl, rfl, rfl, w2⟩ := open_int Yba.underlying22 (hval 2 22 v2 rfl rfl) h2
  obtain ⟨a3, rfl, rfl, rfl, w3⟩ := open_int Yba.underlying5 (hval 3 5 v3 rfl rfl) h3
  obtain ⟨a4, len4, cap4, rfl⟩ := okWide_slice Yba.underlying23 (hval 4 23 v4 rfl rfl)
  have k4 := h4
  have lt4 : ∀ x ∈ p4, x.block < W.heap.size := by obtain ⟨m, hm⟩ := k4; exact DataW.trod_lt m _ _ _ hm
  obtain ⟨E, hE, hEm⟩ := ents_of h4
  clear hA0 hval0
  have b0 := bounds_u8 w0
  have b1 := bounds_u8 w1
  have b2 := bounds_u32 w2
  refine (law_any a0 a1 a2 a3 a4 len4 cap4 E W hE hEm b0.1 b0.2 b1.1 b1.2 b2.1 b2.2 w3).mono fun e W' ⟨he, bel⟩ => ?_
  subst he
  exact ⟨_, rfl, _, _, _, [], _, [], hW', trodAll_mk1 (shut_bool Yba.underlying4 _), (trodAll_cons_mk (shut_int Yba.underlying5 w0) (trodAll_cons_mk (shut_int Yba.underlying5 w1) (trodAll_cons_mk (shut_int Yba.underlying22 w2) (trodAll_cons_mk (shut_int Yba.underlying5 w3) (trodAll_cons_mk (Below.trod laidOut (by kernel_rfl) (of_decide_eq_true (by kernel_rfl)) k4 bel lt4) trodAll_mk0))))), rfl, bel.frame _, fun h => by cases h⟩

theorem over : Rows.lawS6216APartRow.holds Yba.pinned (OpenSpec.ofChange Rows.lawS6216APartSpec) :=
  OpenClaim.holds_of_wide 3 Yba.f3 rfl rfl rfl rfl rfl rfl rfl ⟨rfl, rfl, rfl, rfl, rfl⟩ rfl rfl rfl rfl rfl (by kernel_rfl) Yba.func3 (by kernel_rfl)
    (of_decide_eq_true (by kernel_rfl)) (by unfold Func.isWrapper; first | (rw [if_pos (by decide +kernel)]; kernel_rfl) | (rw [if_neg (by decide +kernel)]; exact ⟨rfl, rfl⟩))
    (fun os started H enc _ => lifted os started H enc)

theorem proved : Rows.LawS6216APartSaid := over
end Go.Proofs.Ybulkdxsc.lawS6216APart
