/- 'Rows.LawS6216CWholeSaid': the frame is the shells' own (proof-skeleton's make), turned to a slice of strings and a slice of floats. -/
import Derived.Test.YbulkdxscCLaw
import Derived.ProofKit
import Derived.OpenShut
import Derived.ShutString
import Derived.SliceStrings
import Derived.ChangeOld
import Derived.Below
namespace Go.Proofs.Ybulkdxsc.lawS6216CWhole
open Go.ChangeShapes Go.WideShapes Go.ChangeAt Go.RowKit

theorem own : ownKnob Yba.prog.godebug = none := by kernel_rfl
theorem laidOut : laidOutB Yba.prog = true := by kernel_rfl
theorem cells9 : Yba.prog.cellsOf 9 = 1 := by kernel_rfl
theorem cells60 : Yba.prog.cellsOf 60 = 1 := by kernel_rfl

theorem trod_float {H : Type} {enc : TypeId × Value → H} {P : Program} {w : World} {base : Nat} {spare : Nat → Bool} {held : Bool} {fuel : Nat} {t : TypeId} {cs : List Value} {x : DataW H × List MemPlace} {k : FloatKind}
    (ht : P.underlying t = some (.float k)) (h : DataW.trod enc P w base spare held fuel t cs = some x) : ∃ n, cs = [.float k n] := by
  cases fuel with
  | zero => simp [DataW.trod] at h
  | succ n =>
    unfold DataW.trod at h
    rw [ht] at h
    split at h <;> simp_all

def IsStrs (w : World) (a : Option Addr) (len cap : Nat) (S : Nat → ByteArray) : Prop :=
  (a = none ∧ len = 0 ∧ cap = 0) ∨ (∃ x, a = some x ∧ len = 0) ∨ ∃ b off, a = some ⟨b, off, none⟩ ∧ 0 < len ∧ b < w.heap.size ∧ ∀ i, i < len → w.cell? ⟨b, off + i, none⟩ = some (.string (S i))
def IsFloats (w : World) (a : Option Addr) (len : Nat) (T : Nat → Nat) : Prop :=
  len = 0 ∨ ∃ b off, a = some ⟨b, off, none⟩ ∧ 0 < len ∧ b < w.heap.size ∧ ∀ i, i < len → w.cell? ⟨b, off + i, none⟩ = some (.float .f64 (T i))

theorem law_any (a1 : Option Addr) (n cap : Nat) (S : Nat → ByteArray) (a2 : Option Addr) (lt ct : Nat) (T : Nat → Nat) (w : World)
    (h1 : IsStrs w a1 n cap S) (hm1 : n ≤ maxLen) (hSz : ∀ i, (S i).size ≤ maxLen) (h2 : IsFloats w a2 lt T) (hm2 : lt ≤ maxLen) :
    Calls Yba.prog 5 #[.slice a1 n cap, .slice a2 lt ct] w fun e w' => e = .returned (.bool true) ∧ Below w.heap.size w w' := by
  by_cases hbig : 4096 < (n : Int)
  · exact law_big a1 n cap _ w hbig hm1
  rcases h1 with ⟨rfl, rfl, rfl⟩ | ⟨x, rfl, rfl⟩ | ⟨b, off, rfl, hn0, hb, hS⟩
  · exact law_nil _ w
  · exact law_empty x cap _ w
  rcases h2 with rfl | ⟨tb, toff, rfl, ht0, htb, hT⟩
  · exact law_B b off n cap S a2 ct w hn0 (by omega) hb hS hSz
  · exact law_A b off n cap S tb toff lt ct T w hn0 (by omega) hb hS hSz ht0 hm2 htb hT

theorem strs_of {H : Type} {enc : TypeId × Value → H} {W : World} {a : Option Addr} {len cap : Nat} {d : DataW H} {p : List MemPlace} (h : DataW.Trod enc Yba.prog W 0 (fun _ => true) true 153 (.slice a len cap) d p) :
    ∃ S : Nat → ByteArray, IsStrs W a len cap S ∧ len ≤ maxLen ∧ ∀ i, (S i).size ≤ maxLen := by
  obtain ⟨fuel, hf⟩ := h
  rcases open_strings Yba.underlying153 Yba.underlying9 cells9 hf with ⟨hcs, _⟩ | ⟨x, l, c, ss, hcs, _, hl, hm, hz, _, hcell, hws⟩
  · simp [Value.cells] at hcs
    obtain ⟨rfl, rfl, rfl⟩ := hcs
    exact ⟨fun _ => ByteArray.empty, .inl ⟨rfl, rfl, rfl⟩, Nat.zero_le _, fun _ => by simp⟩
  · simp [Value.cells] at hcs
    obtain ⟨rfl, rfl, rfl⟩ := hcs
    simp only [if_true] at hz
    refine ⟨fun i => ss.getD i ByteArray.empty, ?_, Nat.le_trans hl hm, fun i => ?_⟩
    · by_cases h0 : len = 0
      · exact .inr (.inl ⟨x, rfl, h0⟩)
      · have hc0 := hcell 0 (by omega)
        obtain ⟨b, off, spot⟩ := x
        have hspot : spot = none := by simpa [Addr.add] using World.cell?_spot hc0
        subst hspot
        refine .inr (.inr ⟨b, off, rfl, by omega, ?_, fun i hi => ?_⟩)
        · simpa [Addr.add] using World.block_lt_of_cell? _ _ hc0
        · rw [← add_plain]; exact hcell i (by omega)
    · show (ss.getD i ByteArray.empty).size ≤ maxLen
      by_cases hi : i < ss.length
      · rw [List.getD, List.getElem?_eq_getElem hi]
        exact hws _ (List.getElem_mem hi)
      · rw [List.getD, List.getElem?_eq_none (by omega)]
        exact Nat.zero_le _

theorem floats_of {H : Type} {enc : TypeId × Value → H} {W : World} {a : Option Addr} {len cap : Nat} {d : DataW H} {p : List MemPlace} (h : DataW.Trod enc Yba.prog W 0 (fun _ => true) true 67 (.slice a len cap) d p) :
    ∃ T : Nat → Nat, IsFloats W a len T ∧ len ≤ maxLen := by
  obtain ⟨fuel, hf⟩ := h
  rcases DataW.trod_slice Yba.underlying67 hf with ⟨hcs, _⟩ | ⟨x, l, c, elems, rest, n, _, hcs, _, _, hl, hm, hlen, hel, _, _⟩
  · simp [Value.cells] at hcs
    obtain ⟨rfl, rfl, rfl⟩ := hcs
    exact ⟨fun _ => 0, .inl rfl, Nat.zero_le _⟩
  · simp [Value.cells] at hcs
    obtain ⟨rfl, rfl, rfl⟩ := hcs
    have each : ∀ i, i < len → ∃ v, W.cell? (x.add i) = some (.float .f64 v) := by
      intro i hi
      have hy := hel i hi
      rw [List.getElem?_eq_getElem (by omega), cells60, Nat.mul_one, Option.bind_eq_some_iff] at hy
      obtain ⟨cs', hcs, hy'⟩ := hy
      obtain ⟨v, rfl⟩ := trod_float Yba.underlying60 hy'
      exact ⟨v, cell_of_cells?_one hcs⟩
    refine ⟨fun i => match W.cell? (x.add i) with | some (.float _ v) => v | _ => 0, ?_, Nat.le_trans hl hm⟩
    by_cases h0 : len = 0
    · exact .inl h0
    · obtain ⟨v0, hc0⟩ := each 0 (by omega)
      obtain ⟨b, off, spot⟩ := x
      have hspot : spot = none := by simpa [Addr.add] using World.cell?_spot hc0
      subst hspot
      refine .inr ⟨b, off, rfl, by omega, ?_, fun i hi => ?_⟩
      · simpa [Addr.add] using World.block_lt_of_cell? _ _ hc0
      · obtain ⟨v, hv⟩ := each i hi
        rw [add_plain] at hv
        simp only [add_plain, hv]

set_option maxRecDepth 100000 in
theorem lifted (os : Os) (started : os.Started) (H : Type) (enc : TypeId × Value → H) :
    ReturnsInHanded {} Yba.checked os 5 .any (Rows.lawS6216CWholeSpec.pre6 enc Yba.prog Yba.f5 Rows.lawS6216CWholeRow.domain false) (Rows.lawS6216CWholeSpec.post enc Yba.prog Yba.f5 false true false false) := by
  refine returnsInHanded_of_change (C := Yba.checked) own started (by kernel_rfl) Yba.func5
    (ChangeSpec.witness6 (enc := enc) (C := Yba.checked) false ⟨#[], #[.slice none 0 0, .slice none 0 0], []⟩ 8 (by kernel_rfl) (by kernel_rfl) (by kernel_rfl) (by kernel_rfl)) ?_
  intro W base args ds gs before hval0 hW hcnd _
  have hval : ∀ (j : Nat) t v, Yba.f5.params[j]? = some t → args[j]? = some v → Value.okWide Yba.prog W .any base t v := hval0
  have hW' := hW
  obtain ⟨p, q, hA0, hV, rfl, hfz, hnd⟩ := hW
  have hA : DataW.TrodAll enc Yba.prog W 0 (fun _ => true) true Yba.f5.params.toList args.toList ds p := hA0
  rw [Yba.params5] at hA hval
  obtain ⟨v0, vs0, d0, ds0, p0, q0, hargs, rfl, rfl, h0, r0⟩ := trodAll_cons hA
  obtain ⟨v1, vs1, d1, ds1, p1, q1, rfl, rfl, rfl, h1, r1⟩ := trodAll_cons r0
  obtain ⟨rfl, rfl, rfl⟩ := trodAll_nil r1
  obtain rfl : args = #[v0, v1] := by cases args; simp_all
  obtain ⟨rfl, rfl⟩ := trodVars_none hV
  obtain ⟨a0, len0, cap0, rfl⟩ := okWide_slice Yba.underlying153 (hval 0 153 v0 rfl rfl)
  have k0 := h0
  have lt0 : ∀ x ∈ p0, x.block < W.heap.size := by obtain ⟨m, hm⟩ := k0; exact DataW.trod_lt m _ _ _ hm
  obtain ⟨a1, len1, cap1, rfl⟩ := okWide_slice Yba.underlying67 (hval 1 67 v1 rfl rfl)
  have k1 := h1
  have lt1 : ∀ x ∈ p1, x.block < W.heap.size := by obtain ⟨m, hm⟩ := k1; exact DataW.trod_lt m _ _ _ hm
  obtain ⟨S, hS, hSm, hSz⟩ := strs_of h0
  obtain ⟨T, hT, hTm⟩ := floats_of h1
  clear hA0 hval0
  refine (law_any a0 len0 cap0 S a1 len1 cap1 T W hS hSm hSz hT hTm).mono fun e W' ⟨he, bel⟩ => ?_
  subst he
  exact ⟨_, rfl, _, _, _, [], _, [], hW', trodAll_mk1 (shut_bool Yba.underlying4 _), (trodAll_cons_mk (Below.trod laidOut (by kernel_rfl) (of_decide_eq_true (by kernel_rfl)) k0 bel lt0) (trodAll_cons_mk (Below.trod laidOut (by kernel_rfl) (of_decide_eq_true (by kernel_rfl)) k1 bel lt1) trodAll_mk0)), rfl, bel.frame _, fun h => by cases h⟩

theorem over : Rows.lawS6216CWholeRow.holds Yba.pinned (OpenSpec.ofChange Rows.lawS6216CWholeSpec) :=
  OpenClaim.holds_of_wide 5 Yba.f5 rfl rfl rfl rfl rfl rfl rfl ⟨rfl, rfl, rfl, rfl, rfl⟩ rfl rfl rfl rfl rfl (by kernel_rfl) Yba.func5 (by kernel_rfl)
    (of_decide_eq_true (by kernel_rfl)) (by unfold Func.isWrapper; first | (rw [if_pos (by decide +kernel)]; kernel_rfl) | (rw [if_neg (by decide +kernel)]; exact ⟨rfl, rfl⟩))
    (fun os started H enc _ => lifted os started H enc)

theorem proved : Rows.LawS6216CWholeSaid := over
end Go.Proofs.Ybulkdxsc.lawS6216CWhole
