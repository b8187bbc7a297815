/- 'Rows.LawS6212CWholeToldSaid': the row over the walks, told and tied. After the guide's SentryProofs.lean, GuardTold.lean, PortSeven.lean, turned to this program. -/
import Derived.Test.YbulkdxpyFmtTie
import Derived.Test.YbulkdxpyFmtCards
import Derived.Test.YbulkdxpyFmtLawB
import Derived.Test.YbulkdxpyFmtLawC
import Derived.Test.YbulkdxpyFmtLawD
import Derived.ProofKit
import Derived.OpenShut
import Derived.ShutString
import Derived.SliceStrings
import Derived.WalkSmall
import Derived.Stop.JoinedAt
import Derived.Stop.Texts
import Derived.Stop.LaidErr
import Derived.Stop.JoinedTold
import Derived.SevenTiedAt
namespace Go.Proofs.YbulkdxpyFmt
open Go.ChangeShapes Go.WideShapes Go.ChangeAt Go.RowKit Go.Kit
open Go.ChangeMaps (open_string shut_string)
open Go.Extern.Stop Go.Stop Go.Extern

theorem own : ownKnob Ybaf.prog.godebug = none := by kernel_rfl
theorem laidOut : laidOutB Ybaf.prog = true := by kernel_rfl
theorem stops : Ybaf.pinned.checked.prog.stops = ["fmt.errorf"] := by kernel_rfl
theorem stopKnobs : Ybaf.pinned.checked.prog.stopKnobs = [] := by kernel_rfl
theorem quiet (os : Os) : Stop.quiet Ybaf.pinned.checked.prog os := by
  intro k hk
  rw [stopKnobs] at hk
  cases hk
/-- The sentinel's name, out of the given row (a string with a slash is not typed here). -/
abbrev errName : String := Rows.lawS6212CWholeSpec.vars.headD ""
/-- The type's name, out of the given datum. -/
def ifaceName : DataW Unit → String
  | .iface t _ => t
  | _ => ""
theorem gE : Ybaf.prog.globalNamed errName = some 0 := by kernel_rfl
theorem gEType : (Ybaf.prog.globals[0]?).map (·.type) = some 37 := by kernel_rfl
theorem cells64 : Ybaf.prog.cellsOf 64 = 1 := by kernel_rfl
theorem cells9 : Ybaf.prog.cellsOf 9 = 1 := by kernel_rfl
theorem star : String.singleton (Char.ofNat 42) ++ "errors.errorString" = ifaceName Rows.laid_example_com_signalbox_signalbox_internal_task_ErrNotFound := by decide
theorem row62 (u : TypeId) (h : Ybaf.prog.typeName? 3 u = some (ifaceName Rows.laid_example_com_signalbox_signalbox_internal_task_ErrNotFound)) : u = 62 :=
  typeName_ptr_named (nm := "errors.errorString") (by kernel_rfl) (by kernel_rfl) (by decide) u (by rw [h, ← star]; rfl)

/-! ### The walk at whatever slices of strings -/
def IsStrs (w : World) (a : Option Addr) (len : Nat) (S : Nat → ByteArray) : Prop :=
  len = 0 ∨ ∃ b off, a = some ⟨b, off, none⟩ ∧ b < w.heap.size ∧ ∀ i, i < len → w.cell? ⟨b, off + i, none⟩ = some (.string (S i))

set_option maxRecDepth 100000 in
theorem law_big (a1 : Option Addr) (n cap : Nat) (v2 : Value) (path id : ByteArray) (pick : Int) (w : World) (hn : 1048576 < (n : Int)) (_hm : n ≤ maxLen) :
    Calls Ybaf.prog 3 #[.string path, .slice a1 n cap, v2, .string id, .int .u8 pick] w fun e w' => e = .returned (.bool true) ∧ Below w.heap.size w w' := by
  unfold maxLen at _hm
  go_enter Ybaf.func3, Ybaf.ntmps3
  go_wp2
  go_ret
  exact ⟨rfl, Below.refl _ _⟩

theorem law_any (a1 : Option Addr) (n cap : Nat) (S : Nat → ByteArray) (a2 : Option Addr) (lt ct : Nat) (T : Nat → ByteArray) (path id : ByteArray) (pick : Int) (a : Addr) (es : ByteArray) (w : World)
    (h1 : IsStrs w a1 n S) (hm1 : n ≤ maxLen) (hSz : ∀ i, (S i).size ≤ maxLen) (h2 : IsStrs w a2 lt T) (hm2 : lt ≤ maxLen)
    (hp0 : 0 ≤ pick) (hp1 : pick ≤ 255) (hid : id.size ≤ maxLen)
    (hg : w.cell? ⟨0, 0, none⟩ = some (.iface 62 (.pointer (some a)))) (hs : w.cell? a = some (.string es)) :
    Calls Ybaf.prog 3 #[.string path, .slice a1 n cap, .slice a2 lt ct, .string id, .int .u8 pick] w fun e w' => e = .returned (.bool true) ∧ Below w.heap.size w w' := by
  by_cases hbig : 1048576 < (n : Int)
  · exact law_big a1 n cap _ path id pick w hbig hm1
  rcases h1 with rfl | ⟨b, off, rfl, hb, hS⟩
  · exact law_E a1 cap a2 lt ct path id pick a es w hid hg hs
  by_cases hn0 : n = 0
  · subst hn0; exact law_E _ cap a2 lt ct path id pick a es w hid hg hs
  have hn : n ≤ 1048576 := by omega
  have hn0' : 0 < n := by omega
  have hT : lt = 0 ∨ (0 < lt ∧ ∃ tb toff, a2 = some ⟨tb, toff, none⟩ ∧ tb < w.heap.size ∧ ∀ i, i < lt → w.cell? ⟨tb, toff + i, none⟩ = some (.string (T i))) := by
    rcases h2 with h | ⟨tb, toff, e1, e2, e3⟩
    · exact .inl h
    · by_cases hlt : lt = 0
      · exact .inl hlt
      · exact .inr ⟨by omega, tb, toff, e1, e2, e3⟩
  cases hpk : (pick % 2 == 0) with
  | true =>
    rcases hT with rfl | ⟨ht0, tb, toff, rfl, htb, hT⟩
    · exact law_C b off n cap S a2 ct path id pick a es w hn0' hn hb hS hSz hp0 hp1 hid hg hs hpk
    · exact law_A b off n cap S tb toff lt ct T path id pick a es w hn0' hn hb hS hSz ht0 hm2 htb hT hp0 hp1 hid hg hs hpk
  | false =>
    rcases hT with rfl | ⟨ht0, tb, toff, rfl, htb, hT⟩
    · exact law_D b off n cap S a2 ct path id pick a es w hn0' hn hb hS hSz hp0 hp1 hid hg hs hpk
    · exact law_B b off n cap S tb toff lt ct T path id pick a es w hn0' hn hb hS hSz ht0 hm2 htb hT hp0 hp1 hid hg hs hpk

/-- A slice of strings as it came in. -/
theorem strs_of {H : Type} {enc : TypeId × Value → H} {W : World} {a : Option Addr} {len cap : Nat} {d : DataW H} {p : List MemPlace} (h : DataW.Trod enc Ybaf.prog W 0 (fun _ => true) true 22 (.slice a len cap) d p) :
    ∃ S : Nat → ByteArray, IsStrs W a len S ∧ len ≤ maxLen ∧ ∀ i, (S i).size ≤ maxLen := by
  obtain ⟨fuel, hf⟩ := h
  rcases open_strings Ybaf.underlying22 Ybaf.underlying9 cells9 hf with ⟨hcs, _⟩ | ⟨x, l, c, ss, hcs, _, hl, hm, hz, _, hcell, hws⟩
  · simp [Value.cells] at hcs
    obtain ⟨rfl, rfl, rfl⟩ := hcs
    exact ⟨fun _ => ByteArray.empty, .inl rfl, Nat.zero_le _, fun _ => by simp⟩
  · simp [Value.cells] at hcs
    obtain ⟨rfl, rfl, rfl⟩ := hcs
    simp only [if_true] at hz
    refine ⟨fun i => ss.getD i ByteArray.empty, ?_, Nat.le_trans hl hm, fun i => ?_⟩
    · by_cases h0 : len = 0
      · exact .inl h0
      · have hc0 := hcell 0 (by omega)
        obtain ⟨b, off, spot⟩ := x
        have hspot : spot = none := by simpa [Addr.add] using World.cell?_spot hc0
        subst hspot
        refine .inr ⟨b, off, rfl, ?_, fun i hi => ?_⟩
        · simpa [Addr.add] using World.block_lt_of_cell? _ _ hc0
        · rw [← add_plain]; exact hcell i (by omega)
    · show (ss.getD i ByteArray.empty).size ≤ maxLen
      by_cases hi : i < ss.length
      · rw [List.getD, List.getElem?_eq_getElem hi]
        exact hws _ (List.getElem_mem hi)
      · rw [List.getD, List.getElem?_eq_none (by omega)]
        exact Nat.zero_le _

theorem laid_met (os : Os) (args : Array Value) : laidMet Ybaf.prog Rows.lawS6212CWholeRow.laid
    (World.forCall { (World.holding Ybaf.prog os ⟨#[.cells #[.string { data := #[110, 111, 32, 115, 117, 99, 104, 32, 116, 97, 115, 107] }] 64], #[], []⟩) with heap := (World.holding Ybaf.prog os ⟨#[.cells #[.string { data := #[110, 111, 32, 115, 117, 99, 104, 32, 116, 97, 115, 107] }] 64], #[], []⟩).heap.modify 0 fun
      | .cells _ t frozen => .cells #[.iface 62 (.pointer (some ⟨(World.holding Ybaf.prog default ⟨#[], #[], []⟩).heap.size, 0, none⟩))] t frozen
      | o => o } (fun _ _ => 0) ⟨#[], args, []⟩).memory :=
  laidMet_of_run (ps := [.cell 0 0, .cell (World.holding Ybaf.prog default ⟨#[], #[], []⟩).heap.size 0]) 8 (by kernel_rfl) (by kernel_rfl) (by kernel_rfl)

set_option maxRecDepth 100000 in
theorem lifted (os : Os) (started : os.Started) (H : Type) (enc : TypeId × Value → H) :
    ReturnsInTold none {} Ybaf.checked os 3 .any Input.okWide ((OpenSpec.ofChange Rows.lawS6212CWholeSpec).preRow enc Ybaf.prog Ybaf.f3 [] false Rows.lawS6212CWholeRow.laid) (fun F => ((OpenSpec.ofChange Rows.lawS6212CWholeSpec).at F).post enc Ybaf.prog Ybaf.f3 false true false false) (aloneAtReturn Ybaf.prog) nothingAlways := by
  refine returnsInTold_of_row (C := Ybaf.checked) (s := OpenSpec.ofChange Rows.lawS6212CWholeSpec) (by kernel_rfl) own started (by kernel_rfl) Ybaf.func3
    (OpenSpec.witness_stopped_at (enc := enc) (C := Ybaf.checked) false _ #[.string ByteArray.empty, .slice none 0 0, .slice none 0 0, .string ByteArray.empty, .int .u8 0] rfl (by kernel_rfl) (by kernel_rfl) (by kernel_rfl)
      (OpenSpec.preRow_of_B rfl 8 (by kernel_rfl) (by kernel_rfl) (laid_met os _))) ?_
  intro F W base args ds gs before _ hF hval0 hW _ _ _ hL _
  have hval : ∀ (j : Nat) t v, Ybaf.f3.params[j]? = some t → args[j]? = some v → Value.okWide Ybaf.prog W .any base t v := hval0
  have hW' := hW
  obtain ⟨p, q, hA0, hV0, rfl, hfz, hnd⟩ := hW
  have hA : DataW.TrodAll enc Ybaf.prog W 0 (fun _ => true) true Ybaf.f3.params.toList args.toList ds p := hA0
  have hV : DataW.TrodVars enc Ybaf.prog W (fun _ => true) [errName] gs q := hV0
  rw [Ybaf.params3] at hA hval
  obtain ⟨v0, vs0, d0, ds0, p0, q0, hargs, rfl, rfl, h0, r0⟩ := trodAll_cons hA
  obtain ⟨v1, vs1, d1, ds1, p1, q1, rfl, rfl, rfl, h1, r1⟩ := trodAll_cons r0
  obtain ⟨v2, vs2, d2, ds2, p2, q2, rfl, rfl, rfl, h2, r2⟩ := trodAll_cons r1
  obtain ⟨v3, vs3, d3, ds3, p3, q3, rfl, rfl, rfl, h3, r3⟩ := trodAll_cons r2
  obtain ⟨v4, vs4, d4, ds4, p4, q4, rfl, rfl, rfl, h4, r4⟩ := trodAll_cons r3
  obtain ⟨rfl, rfl, rfl⟩ := trodAll_nil r4
  obtain rfl : args = #[v0, v1, v2, v3, v4] := by cases args; simp_all
  obtain ⟨path, rfl, rfl, rfl, w0⟩ := open_string Ybaf.underlying9 (hval 0 9 v0 rfl rfl) h0
  obtain ⟨a1, len1, cap1, rfl⟩ := okWide_slice Ybaf.underlying22 (hval 1 22 v1 rfl rfl)
  obtain ⟨a2, len2, cap2, rfl⟩ := okWide_slice Ybaf.underlying22 (hval 2 22 v2 rfl rfl)
  have k1 := h1
  have lt1 : ∀ x ∈ p1, x.block < W.heap.size := by obtain ⟨m, hm⟩ := k1; exact DataW.trod_lt m _ _ _ hm
  have k2 := h2
  have lt2 : ∀ x ∈ p2, x.block < W.heap.size := by obtain ⟨m, hm⟩ := k2; exact DataW.trod_lt m _ _ _ hm
  obtain ⟨S, hS, hSm, hSz⟩ := strs_of h1
  obtain ⟨T, hT, hTm, hTz⟩ := strs_of h2
  obtain ⟨id, rfl, rfl, rfl, w3⟩ := open_string Ybaf.underlying9 (hval 3 9 v3 rfl rfl) h3
  obtain ⟨pick, rfl, rfl, rfl, w4⟩ := open_int Ybaf.underlying5 (hval 4 5 v4 rfl rfl) h4
  obtain ⟨a, es, hv, hc, hs, hz⟩ := laid_sentinel hL gE gEType Ybaf.underlying37 row62 Ybaf.underlying62 Ybaf.underlying64 rfl rfl Ybaf.underlying9 cells64 cells9
  obtain ⟨rfl, rfl⟩ := hV.unique (vars_read1 enc gE gEType Ybaf.underlying37 hv trivial _)
  clear hA0 hV0 hval0
  have hg : W.cell? ⟨0, 0, none⟩ = some (.iface 62 (.pointer (some a))) := by simpa using World.var?_cell gE hv 0
  have hb := bounds_u8 w4
  refine (law_any a1 len1 cap1 S a2 len2 cap2 T path id pick a es W hS hSm hSz hT hTm hb.1 hb.2 w3 hg hc).mono fun e W' ⟨he, bel⟩ => ?_
  subst he
  exact ⟨_, rfl, _, _, _, [], _, [.cell 0 0], hW', trodAll_mk1 (shut_bool Ybaf.underlying4 _),
    (trodAll_cons_mk (shut_string Ybaf.underlying9 w0) (trodAll_cons_mk (Below.trod laidOut (by kernel_rfl) (of_decide_eq_true (by kernel_rfl)) k1 bel lt1) (trodAll_cons_mk (Below.trod laidOut (by kernel_rfl) (of_decide_eq_true (by kernel_rfl)) k2 bel lt2) (trodAll_cons_mk (shut_string Ybaf.underlying9 w3) (trodAll_cons_mk (shut_int Ybaf.underlying5 w4) trodAll_mk0))))),
    vars_read1 enc gE gEType Ybaf.underlying37 (var?_below bel gE (World.block_lt_of_cell? _ _ hg) hv) trivial _, bel.frame _, fun h => by cases h⟩

theorem proved : Rows.LawS6212CWholeToldSaid :=
  Claim7.holds_of_told_tied_any_at .later 3 Ybaf.f3 "fmt.errorf" [] [] _ _ _ _ _ (by kernel_rfl) rfl rfl rfl (by kernel_rfl) (by kernel_rfl) rfl ⟨rfl, rfl, rfl, rfl, rfl, rfl, rfl⟩ rfl rfl (by kernel_rfl) (by kernel_rfl) Ybaf.func3 (by kernel_rfl)
    (of_decide_eq_true (by kernel_rfl)) (of_decide_eq_true (by kernel_rfl)) stops.symm rfl stopKnobs.symm (by kernel_rfl)
    (by kernel_rfl) (by kernel_rfl) (by kernel_rfl) (by kernel_rfl) (by kernel_rfl) (by kernel_rfl) (by kernel_rfl) (by kernel_rfl) (by kernel_rfl) rfl (by kernel_rfl) rfl rfl
    rfl rfl
    rfl (by kernel_rfl) (by kernel_rfl) (by kernel_rfl) (by decide) (by kernel_rfl) lawS6212CWhole_row_tie
    (OpenClaim.moreEntering_of (by kernel_rfl) (by kernel_rfl) (by kernel_rfl) (by kernel_rfl) (by kernel_rfl) (by kernel_rfl) (by kernel_rfl) (by kernel_rfl) (by kernel_rfl) (by kernel_rfl))
    ⟨_, WideRow.started_initial, quiet _⟩
    (fun os started _ H enc _ => lifted os started H enc)
end Go.Proofs.YbulkdxpyFmt
