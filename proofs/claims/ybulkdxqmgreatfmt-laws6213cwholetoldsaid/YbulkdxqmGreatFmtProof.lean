/- 'Rows.LawS6213CWholeToldSaid': the card over the walks. After the guide's HexbadTold.lean, HexbadSeven.lean, turned to this program. -/
import Derived.Test.YbulkdxqmGreatFmtCards
import Derived.Test.YbulkdxqmGreatFmtLaw
import Derived.ProofKit
import Derived.WalkSmall
import Derived.Deep.Slices
import Derived.Stop.JoinedAt
import Derived.Stop.Texts
import Derived.Stop.JoinedTold
import Derived.SevenToldRow
namespace Go.Proofs.YbulkdxqmGreatFmt
open Go.ChangeShapes Go.WideShapes Go.ChangeAt Go.RowKit Go.Kit
open Go.Extern.Stop Go.Stop Go.Extern

theorem own : ownKnob Ybaz.prog.godebug = none := by kernel_rfl
theorem laidOut : laidOutB Ybaz.prog = true := by kernel_rfl
theorem stops : Ybaz.pinned.checked.prog.stops = ["fmt.Sprintf"] := by kernel_rfl
theorem stopKnobs : Ybaz.pinned.checked.prog.stopKnobs = [] := by kernel_rfl
theorem quiet (os : Os) : Stop.quiet Ybaz.pinned.checked.prog os := by
  intro k hk
  rw [stopKnobs] at hk
  cases hk
theorem cells97 : Ybaz.prog.cellsOf 97 = 3 := by kernel_rfl
theorem cells2 : Ybaz.prog.cellsOf 2 = 1 := by kernel_rfl
theorem cells4 : Ybaz.prog.cellsOf 4 = 1 := by kernel_rfl
theorem bounds_i64 {v : Int} (h : (Lit.int .i64 v).wf = true) : InI64 v := by
  simp [Lit.wf, IntKind.min, IntKind.max, IntKind.signed, IntKind.bits] at h
  unfold InI64; omega

set_option maxRecDepth 100000 in
/-- The specs as they came in. -/
theorem specs_of {H : Type} {enc : TypeId × Value → H} {W : World} {a : Option Addr} {len cap : Nat} {d : DataW H} {p : List MemPlace} (h : DataW.Trod enc Ybaz.prog W 0 (fun _ => true) true 22 (.slice a len cap) d p) :
    ∃ I S B, Specs W a len I S B ∧ len ≤ maxLen ∧ ∀ i, InI64 (I i) := by
  obtain ⟨fuel, hf⟩ := h
  rcases Go.Deep.open_slice Ybaz.underlying22 hf with ⟨hcs, _⟩ | ⟨x, l, c, m, n, D, Pl, hcs, _, hl, hm, hmm, _, hx⟩
  · simp [Value.cells] at hcs
    obtain ⟨rfl, rfl, rfl⟩ := hcs
    exact ⟨fun _ => 0, fun _ => 0, fun _ => false, fun i hi => absurd hi (Nat.not_lt_zero _), Nat.zero_le _, fun i => (by show InI64 0; unfold InI64; omega)⟩
  · simp [Value.cells] at hcs
    obtain ⟨rfl, rfl, rfl⟩ := hcs
    simp only [if_true] at hmm
    have each : ∀ i, i < len → ∃ q : Int × Int × Bool, W.cell? (x.add (i * 3)) = some (.int .i64 q.1) ∧ W.cell? (x.add (i * 3 + 1)) = some (.int .i64 q.2.1) ∧ W.cell? (x.add (i * 3 + 2)) = some (.bool q.2.2) ∧ InI64 q.1 := by
      intro i hi
      obtain ⟨cs', h1, h2⟩ := hx i (by omega)
      rw [cells97] at h1
      obtain ⟨_, hlen, hcell⟩ := World.cells?_some h1
      obtain ⟨xs, k, hk, hxy, _, hxl, hf'⟩ := DataW.trod_struct Ybaz.underlying97 h2
      match xs, hxl, cs', hlen with
      | [y0, y1, y2], _, [v0, v1, v2], _ =>
        have g0 := hf' 0 _ rfl
        have g1 := hf' 1 _ rfl
        have g2 := hf' 2 _ rfl
        simp [cells2, cells4] at g0 g1 g2
        obtain ⟨n0, z0, _, w0⟩ := DataW.trod_int Ybaz.underlying2 g0
        obtain ⟨n1, z1, _, _⟩ := DataW.trod_int Ybaz.underlying2 g1
        obtain ⟨n2, z2, _⟩ := DataW.trod_bool Ybaz.underlying4 g2
        simp at z0 z1 z2
        subst z0 z1 z2
        have e0 := hcell 0 (by omega)
        have e1 := hcell 1 (by omega)
        have e2 := hcell 2 (by omega)
        rw [Go.Deep.add_add] at e0 e1 e2
        exact ⟨(n0, n1, n2), by simpa using e0, by simpa using e1, by simpa using e2, bounds_i64 w0⟩
    obtain ⟨q, hq⟩ := Go.Deep.choose_lt each
    refine ⟨fun i => if i < len then (q i).1 else 0, fun i => (q i).2.1, fun i => (q i).2.2, fun i hi => ?_, by omega, fun i => ?_⟩
    · obtain ⟨q0, q1, q2, _⟩ := hq i hi
      obtain ⟨b, off, spot⟩ := x
      have hspot : spot = none := by
        have hc0 := (hq 0 (by omega)).1
        simpa [Addr.add] using World.cell?_spot hc0
      subst hspot
      refine ⟨b, off, rfl, ?_, ?_, ?_, ?_⟩
      · have hc0 := (hq 0 (by omega)).1
        simpa [Addr.add] using World.block_lt_of_cell? _ _ hc0
      · show W.cell? _ = some (.int .i64 (if i < len then (q i).1 else 0))
        rw [if_pos hi, ← add_plain]; exact q0
      · rw [Nat.add_assoc, ← add_plain]; exact q1
      · rw [Nat.add_assoc, ← add_plain]; exact q2
    · show InI64 (if i < len then (q i).1 else 0)
      by_cases hi : i < len
      · rw [if_pos hi]; exact (hq i hi).2.2.2
      · rw [if_neg hi]; unfold InI64; omega

theorem law_any (start : Int) (a : Option Addr) (N cap : Nat) (I S : Nat → Int) (B : Nat → Bool) (w : World) (hm : N ≤ maxLen) (hI : Specs w a N I S B) (hr : ∀ i, InI64 (I i)) :
    Calls Ybaz.prog 3 #[.int .i64 start, .slice a N cap] w fun e w' => e = .returned (.bool true) ∧ Below w.heap.size w w' := by
  by_cases h : 65536 < (N : Int)
  · exact law_big start a N cap w h hm
  · exact law3 start a N cap I S B w (by omega) hI hr

set_option maxRecDepth 100000 in
theorem lifted (os : Os) (started : os.Started) (H : Type) (enc : TypeId × Value → H) :
    ReturnsInTold none {} Ybaz.checked os 3 .any Input.okWide ((OpenSpec.ofChange Rows.lawS6213CWholeSpec).preRow enc Ybaz.prog Ybaz.f3 [] false []) (fun F => ((OpenSpec.ofChange Rows.lawS6213CWholeSpec).at F).post enc Ybaz.prog Ybaz.f3 false true false false) (aloneAtReturn Ybaz.prog) nothingAlways := by
  refine returnsInTold_of_row (C := Ybaz.checked) (s := OpenSpec.ofChange Rows.lawS6213CWholeSpec) (by kernel_rfl) own started (by kernel_rfl) Ybaz.func3
    (OpenSpec.witness_stopped (enc := enc) (C := Ybaz.checked) false ⟨#[], #[.int .i64 0, .slice none 0 0], []⟩ 8 (by kernel_rfl) (by kernel_rfl) (by kernel_rfl) (by kernel_rfl)) ?_
  intro F W base args ds gs before _ hF hval0 hW _ _ _ _ _
  have hval : ∀ (j : Nat) t v, Ybaz.f3.params[j]? = some t → args[j]? = some v → Value.okWide Ybaz.prog W .any base t v := hval0
  have hW' := hW
  obtain ⟨p, q, hA0, hV, rfl, hfz, hnd⟩ := hW
  have hA : DataW.TrodAll enc Ybaz.prog W 0 (fun _ => true) true Ybaz.f3.params.toList args.toList ds p := hA0
  rw [Ybaz.params3] at hA hval
  obtain ⟨rfl, rfl⟩ := trodVars_none hV
  obtain ⟨v0, vs0, d0, ds0, p0, q0, hargs, rfl, rfl, h0, r0⟩ := trodAll_cons hA
  obtain ⟨v1, vs1, d1, ds1, p1, q1, rfl, rfl, rfl, h1, r1⟩ := trodAll_cons r0
  obtain ⟨rfl, rfl, rfl⟩ := trodAll_nil r1
  obtain rfl : args = #[v0, v1] := by cases args; simp_all
  obtain ⟨start, rfl, rfl, rfl, w0⟩ := open_int Ybaz.underlying2 (hval 0 2 v0 rfl rfl) h0
  obtain ⟨a1, len1, cap1, rfl⟩ := okWide_slice Ybaz.underlying22 (hval 1 22 v1 rfl rfl)
  have k1 := h1
  have lt1 : ∀ x ∈ p1, x.block < W.heap.size := by obtain ⟨m, hm⟩ := k1; exact DataW.trod_lt m _ _ _ hm
  obtain ⟨I, S, B, hS, hSm, hIr⟩ := specs_of h1
  clear hA0 hval0
  refine (law_any start a1 len1 cap1 I S B W hSm hS hIr).mono fun e W' ⟨he, bel⟩ => ?_
  subst he
  exact ⟨_, rfl, _, _, _, [], _, [], hW', trodAll_mk1 (shut_bool Ybaz.underlying4 _),
    (trodAll_mk2 (shut_int Ybaz.underlying2 w0) (Below.trod laidOut (by kernel_rfl) (of_decide_eq_true (by kernel_rfl)) k1 bel lt1)),
    rfl, bel.frame _, fun h => by cases h⟩

theorem proved : Rows.LawS6213CWholeToldSaid :=
  Claim7.holds_of_told_any 3 Ybaz.f3 "fmt.Sprintf" [] [] _ _ _ (by kernel_rfl) rfl rfl rfl (by kernel_rfl) (by kernel_rfl) rfl ⟨rfl, rfl, rfl, rfl, rfl, rfl, rfl⟩ rfl rfl (by kernel_rfl) (by kernel_rfl) Ybaz.func3 (by kernel_rfl)
    (of_decide_eq_true (by kernel_rfl)) (of_decide_eq_true (by kernel_rfl)) stops.symm rfl stopKnobs.symm (by kernel_rfl)
    (by kernel_rfl) (by kernel_rfl) (by kernel_rfl) (by kernel_rfl) (by kernel_rfl) (by kernel_rfl) (by kernel_rfl) (by kernel_rfl) (by kernel_rfl) rfl (by kernel_rfl) rfl rfl
    rfl rfl
    rfl (by kernel_rfl) (by kernel_rfl) (by kernel_rfl) (by decide) (by kernel_rfl)
    (OpenClaim.moreEntering_of (by kernel_rfl) (by kernel_rfl) (by kernel_rfl) (by kernel_rfl) (by kernel_rfl) (by kernel_rfl) (by kernel_rfl) (by kernel_rfl) (by kernel_rfl) (by kernel_rfl))
    ⟨_, WideRow.started_initial, quiet _⟩
    (fun os started _ H enc _ => lifted os started H enc)
end Go.Proofs.YbulkdxqmGreatFmt
