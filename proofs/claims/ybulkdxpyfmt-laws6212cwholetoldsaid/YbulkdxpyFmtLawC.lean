/- LawS6212CWhole: the walk at the other inputs (the same text, by program). -/
import Derived.Test.YbulkdxpyFmtLaw
namespace Go.Proofs.YbulkdxpyFmt
set_option linter.unusedVariables false
open Go.RowKit Go.Maps Go.WideMaps Go.WideElems

set_option maxRecDepth 100000 in
set_option maxHeartbeats 2000000 in
theorem law_C (b off n cap : Nat) (S : Nat → ByteArray) (ta : Option Addr) (ct : Nat) (path id : ByteArray) (pick : Int) (a : Addr) (es : ByteArray) (w : World)
    (hn0 : 0 < n) (hn : n ≤ 1048576) (hb : b < w.heap.size) (hS : ∀ i, i < n → w.cell? ⟨b, off + i, none⟩ = some (.string (S i))) (hSz : ∀ i, (S i).size ≤ maxLen)
    (hp0 : 0 ≤ pick) (hp1 : pick ≤ 255) (hid : id.size ≤ maxLen)
    (hg : w.cell? ⟨0, 0, none⟩ = some (.iface 62 (.pointer (some a)))) (hs : w.cell? a = some (.string es)) (hpk : (pick % 2 == 0) = true) :
    Calls Ybaf.prog 3 #[.string path, .slice (some ⟨b, off, none⟩) n cap, .slice ta 0 ct, .string id, .int .u8 pick] w fun e w' => e = .returned (.bool true) ∧ Below w.heap.size w w' := by
  have hmm := @run_makeMap Ybaf.prog
  have hmk := run_make_row' (P := Ybaf.prog) 29 30 (.pointer none) 8 Ybaf.underlying29 info30 rfl .i64 .i64 n (by omega) (by omega)
  have hj : 0 ≤ pick / 2 % (n : Int) ∧ pick / 2 % (n : Int) < (n : Int) := ⟨Int.emod_nonneg _ (by omega), Int.emod_lt_of_pos _ (by omega)⟩
  go_enter Ybaf.func3, Ybaf.ntmps3
  go_wp2
  clear hpk
  go_loopw [13] (fun i wr => ∃ (k c : Nat) (p : Nat → Nat) (f g : Lit → Option (DataW Unit)), k ≤ n ∧ i = .int .i64 k ∧ Inv w wr n path S k c p f g) (fun i _ => n - (intOf i).toNat)
  case atStart => exact ⟨0, 0, _, _, _, Nat.zero_le _, rfl, Inv.start w n path S⟩
  case round =>
    obtain ⟨k, c, p, f, g, hk, rfl, hI⟩ := hrel
    have hf0 := hI.file0
    have hf2 := hI.file2
    have hf3 := hI.file3
    have hSx : ∀ i, i < n → wr.cell? ⟨b, off + i, none⟩ = some (.string (S i)) := fun i hi => (hI.bel.cell (by exact hb)).trans (hS i hi)
    have hB4 : w.heap.size + 1 + 1 + 1 + 1 ≤ wr.heap.size := hI.sz
    have hB2 : w.heap.size + 1 + 1 < wr.heap.size := by omega
    have hB3 : w.heap.size + 1 + 1 + 1 < wr.heap.size := by omega
    clear hmk hmm
    have HS : Hid (∀ i, i < n → w.cell? ⟨b, off + i, none⟩ = some (.string (S i))) := hS
    clear hS
    by_cases hlt : k < n
    · have hst : wr.cell? ⟨w.heap.size + 1 + 1 + 1, k, none⟩ = some (sto k p k) := hI.st.cell hlt
      have hsf : wr.frozen? ⟨w.heap.size + 1 + 1 + 1, k, none⟩ = false := hI.st.frozen k
      cases hfk : f (keyS (S k)) with
      | some d =>
        obtain ⟨i0, hi0, he0⟩ := hI.dom _ (by rw [hfk]; rfl)
        have hd : d = ptrD (p i0) := by
          have := hI.has i0 hi0
          rw [← he0, hfk] at this
          simpa using this
        subst hd
        have hrun := hI.mp.look2_hit key9 Ybaf.underlying24 zero30 ptrElem_nil (key_ok (hSz k)) hfk (ptrElem_inv (p i0))
        have HI : Hid (Inv w wr n path S k c p f g) := hI
        have HF : Hid (f (keyS (S k)) = some (ptrD (p i0))) := hfk
        clear hI hfk he0
        go_wp2
        go_roundw
        case rel =>
          obtain ⟨p', f', g', c', h'⟩ := HI.out.old (p i0) HF.out
          exact ⟨k + 1, c', p', f', g', by omega, by go_num, h'⟩
        case measure => simp [intOf]; omega
      | none =>
        have hrun := hI.mp.look2_miss key9 Ybaf.underlying24 zero30 ptrElem_nil (key_ok (hSz k)) hfk ptrElem_inv_nil
        have HI : Hid (Inv w wr n path S k c p f g) := hI
        have HF : Hid (f (keyS (S k)) = none) := hfk
        have hmp := hI.mp
        have hln := hI.ln
        clear hI hfk
        go_wp2_with (first
          | (at_mapUpdate; refine wpList_put rfl _ _ _ 24 rfl 30 key9 Ybaf.underlying24 rfl (hmp.alloc _) (by unfold maxLen; omega) _ _ _ rfl rfl (key_ok (hSz k)) (isKeyS _) _ _ (ptrElem_mk wr.heap.size) ?_; intro w2 m2 g2; have hf3' : w2.cell? ⟨w.heap.size + 1 + 1, 3, none⟩ = some (.map (some (w.heap.size + 1))) := g2.cell (by rw [World.cell?_alloc_lt _ _ _ (by simp; omega)]; exact hf3) (by simp <;> omega))
          | (at_mapUpdate; refine wpList_put rfl _ _ _ 25 rfl 3 key9 Ybaf.underlying25 rfl ((hln.alloc _).kept g2 (by simp <;> omega)) (by unfold maxLen; omega) _ _ _ rfl rfl (key_ok (hSz k)) (isKeyS _) _ _ (plainElem_int Ybaf.underlying3 (WalkArith.wf_i64 (by omega))) ?_; intro w3 m3 g3; have hst' : w3.cell? ⟨w.heap.size + 1 + 1 + 1, k, none⟩ = some (sto k p k) := g3.cell (g2.cell (by rw [World.cell?_alloc_lt _ _ _ (by simp; omega)]; exact hst) (by simp <;> omega)) (by simp <;> omega); have hsf' : w3.frozen? ⟨w.heap.size + 1 + 1 + 1, k, none⟩ = false := (frz g3 (by have := g2.size; simp at this; simp; omega) (by simp <;> omega)).trans ((frz g2 (by simp; omega) (by simp <;> omega)).trans (by rw [World.frozen?_alloc_past _ _ _ (by omega)]; exact hsf)))
          | go_in)
        go_roundw
        case rel =>
          obtain ⟨p', f', g', c', h'⟩ := HI.out.fresh HF.out _ rfl m2 g2 _ m3 g3
          exact ⟨k + 1, c', p', f', g', by omega, by go_num, h'⟩
        case measure => simp [intOf]; omega
    · have hke : k = n := by omega
      subst hke
      have hlen := fun ty => hI.mp.len Ybaf.underlying24 ty
      have HI : Hid (Inv w wr k path S k c p f g) := hI
      clear hI
      go_wp2
      go_loop [20, 21] (fun t i => ∃ j : Nat, j ≤ k ∧ i = .int .i64 j ∧ t = .pointer none ∧ ∀ m, m < j → S m ≠ (S (pick / 2 % ↑k).toNat)) (fun _ i => k - (intOf i).toNat)
      case atStart => exact ⟨0, Nat.zero_le _, rfl, rfl, fun m hm => by omega⟩
      case round =>
        obtain ⟨j, hj1, rfl, rfl, hno⟩ := hrel
        have hst2 : j < k → wr.cell? ⟨w.heap.size + 1 + 1 + 1, j, none⟩ = some (ptrV (p j)) := fun hj => by have := HI.out.st.cell hj; simpa [sto, hj] using this
        have HN : Hid (∀ m, m < j → S m ≠ (S (pick / 2 % ↑k).toNat)) := hno
        clear hno
        by_cases hjk : j < k
        · by_cases hse : S j = (S (pick / 2 % ↑k).toNat)
          · -- found
            have hq : ((S j).toList == ((S (pick / 2 % ↑k).toNat)).toList) = true := by rw [hse]; simp
            have HE : Hid (S j = (S (pick / 2 % ↑k).toNat)) := hse
            clear hse
            have hfh : f (keyS (S (pick / 2 % ↑k).toNat)) = some (ptrD (p j)) := by rw [← HE.out]; exact HI.out.has j hjk
            have HF : Hid (f (keyS (S (pick / 2 % ↑k).toNat)) = some (ptrD (p j))) := hfh
            have hmp := HI.out.mp
            clear hfh
            go_wp2_with (go_at_call 4; refine (find_hit' _ _ _ _ (p j) f _ _ hf2 hmp (hSz _) HF.out).mono ?_; rintro e w' ⟨rfl, hbel⟩; have hI2 : Hid (Inv w w' k path S k c p f g) := HI.out.later hbel; have hf0x := hI2.out.file0; have hf2x := hI2.out.file2; have hf3x := hI2.out.file3; have hlen1 := fun ty => hI2.out.mp.len Ybaf.underlying24 ty; have hlen2 := fun ty => hI2.out.ln.len Ybaf.underlying25 ty)
            go_loopw [24] (fun i wx => ∃ m : Nat, m ≤ k ∧ i = .int .i64 m ∧ Below w'.heap.size w' wx) (fun i _ => k - (intOf i).toNat)
            case atStart => exact ⟨0, Nat.zero_le _, rfl, Below.refl _ _⟩
            case round =>
              obtain ⟨m, hm, rfl, hbx⟩ := hrel
              have hI3 : Hid (Inv w wr k path S k c p f g) := hI2.out.later hbx
              clear hlen hlen1 hlen2 hf0 hf2 hf3 hf0x hf2x hf3x hmp hSx
              by_cases hml : m < k
              · have hq0 := hI3.out.file2
                have hq1 := (hI3.out.bel.cell (p := ⟨b, off + m, none⟩) (by exact hb)).trans (HS.out m hml)
                have hq2 : wr.cell? ⟨w.heap.size + 1 + 1 + 1, m, none⟩ = some (ptrV (p m)) := by have := hI3.out.st.cell hml; simpa [sto, hml] using this
                have hq3 := hI3.out.id m hml
                have hq4 : (0 : Int) ≤ (m : Int) := by omega
                have hq5 : (m : Int) < (k : Int) := by omega
                have hq6 := fun nq => (hI3.out.later (Below.drewN' _ nq)).mp.look_hit key9 Ybaf.underlying24 zero30 ptrElem_nil (key_ok (hSz m)) (hI3.out.has m hml) (ptrElem_inv (p m))
                have hq7 := neq_same
                go_wp2
                go_quiet (fail)
                go_wp2
                go_roundw
                case rel => exact ⟨m + 1, by omega, by go_num, hbx.trans ((Below.drewN' wr nq).mono hbx.size)⟩
                case measure => simp [intOf]; omega
              · have hq7 := eql_same
                have hq8 := eql_nil
                have hq9 := hI3.out.id j hjk
                go_wp2
                go_ret
                exact ⟨rfl, hI3.out.bel⟩
          · have hq : ((S j).toList == ((S (pick / 2 % ↑k).toNat)).toList) = false := neq_list hse
            have HE : Hid (¬ S j = (S (pick / 2 % ↑k).toNat)) := hse
            clear hse
            go_wp2
            go_round
            case rel =>
              refine ⟨j + 1, by omega, by go_num, rfl, fun m hm => ?_⟩
              by_cases hmj : m = j
              · subst hmj; exact HE.out
              · exact HN.out m (by omega)
            case measure => simp [intOf]; omega
        · have hje : j = k := by omega
          subst hje
          have hfm : f (keyS (S (pick / 2 % ↑j).toNat)) = none := by
            cases hc : f (keyS (S (pick / 2 % ↑j).toNat)) with
            | none => rfl
            | some d =>
              obtain ⟨i0, hi0, he0⟩ := HI.out.dom _ (by rw [hc]; rfl)
              exact absurd (keyS_inj he0).symm (HN.out i0 hi0)
          have HF : Hid (f (keyS (S (pick / 2 % ↑j).toNat)) = none) := hfm
          have hmp := HI.out.mp
          have hgx : wr.cell? ⟨0, 0, none⟩ = some (.iface 62 (.pointer (some a))) := (HI.out.bel.cell (World.block_lt_of_cell? _ _ hg)).trans hg
          have hsx : wr.cell? a = some (.string es) := (HI.out.bel.cell (World.block_lt_of_cell? _ _ hs)).trans hs
          clear hfm
          go_wp2_with (go_at_call 4; refine (find_miss' _ _ _ _ f path _ es a _ hf0 hf2 hmp (hSz _) HF.out hgx hsx).mono ?_; rintro e w' ⟨nb, rfl, hnb, hnl, hbel⟩; have hI2 : Hid (Inv w w' j path S j c p f g) := HI.out.later hbel; have hf0x := hI2.out.file0; have hf2x := hI2.out.file2; have hf3x := hI2.out.file3; have hlen1 := fun ty => hI2.out.mp.len Ybaf.underlying24 ty; have hlen2 := fun ty => hI2.out.ln.len Ybaf.underlying25 ty)
          go_loopw [24] (fun i wx => ∃ m : Nat, m ≤ j ∧ i = .int .i64 m ∧ Below w'.heap.size w' wx) (fun i _ => j - (intOf i).toNat)
          case atStart => exact ⟨0, Nat.zero_le _, rfl, Below.refl _ _⟩
          case round =>
            obtain ⟨m, hm, rfl, hbx⟩ := hrel
            have hI3 : Hid (Inv w wr j path S j c p f g) := hI2.out.later hbx
            clear hlen hlen1 hlen2 hf0 hf2 hf3 hf0x hf2x hf3x hmp hSx
            by_cases hml : m < j
            · have hq0 := hI3.out.file2
              have hq1 := (hI3.out.bel.cell (p := ⟨b, off + m, none⟩) (by exact hb)).trans (HS.out m hml)
              have hq2 : wr.cell? ⟨w.heap.size + 1 + 1 + 1, m, none⟩ = some (ptrV (p m)) := by have := hI3.out.st.cell hml; simpa [sto, hml] using this
              have hq3 := hI3.out.id m hml
              have hq4 : (0 : Int) ≤ (m : Int) := by omega
              have hq5 : (m : Int) < (j : Int) := by omega
              have hq6 := fun nq => (hI3.out.later (Below.drewN' _ nq)).mp.look_hit key9 Ybaf.underlying24 zero30 ptrElem_nil (key_ok (hSz m)) (hI3.out.has m hml) (ptrElem_inv (p m))
              have hq7 := neq_same
              go_wp2
              go_quiet (fail)
              go_wp2
              go_roundw
              case rel => exact ⟨m + 1, by omega, by go_num, hbx.trans ((Below.drewN' wr nq).mono hbx.size)⟩
              case measure => simp [intOf]; omega
            · have hq7 : wr.cell? ⟨0, 0, none⟩ = some (.iface 62 (.pointer (some a))) := (hI3.out.bel.cell (World.block_lt_of_cell? _ _ hg)).trans hg
              have hq8 := eql_nil
              have hq9 : wr.cell? ⟨nb, 0 + 1, none⟩ = some (.iface 62 (.pointer (some a))) := (hbx.cell (by exact hnl)).trans hnb
              go_wp2_with (go_at_call 5; refine (is_wrap_same nb 0 a _ hq9).mono ?_; rintro e w'' ⟨rfl, rfl⟩)
              go_ret
              exact ⟨rfl, hI3.out.bel⟩

end Go.Proofs.YbulkdxpyFmt
