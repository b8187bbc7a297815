/- LawS6218AWhole: the law's own function. -/
import Derived.Test.YbulkdxteASt
namespace Go.Proofs.Ybulkdxte
set_option linter.unusedVariables false
open Go.RowKit
attribute [local go_sem ↓] Go.wp_at_zero Go.wp_at_succ

theorem run_copy_any (w0 : World) (m : Nat) (cx : Addr) (cap : Nat) (cs : List Int) (hm : cs.length = m) (hsrc : ∀ (j : Nat) v, cs[j]? = some v → ∃ cb co, cx = ⟨cb, co, none⟩ ∧ cb < w0.heap.size ∧ w0.cell? ⟨cb, co + j, none⟩ = some (.int .i64 v)) :
    (Builtin.copy_ #[23, 23] 3 #[.slice (some ⟨w0.heap.size, 0, none⟩) m m, .slice (some cx) m cap]).run Yba.prog (w0.alloc (.cells (madeCells #[.int .i64 0] m) 3)) = .ok (.int .i64 m) (w0.alloc (.cells (cs.map fun x => Value.int .i64 x).toArray 3)) := by
  cases cs with
  | nil =>
    obtain rfl : m = 0 := by simpa using hm.symm
    rw [run_copy_none (P := Yba.prog) _ 23 23 3 3 _ _ 0 0 0 cap Yba.underlying23 info3s rfl]
    have e : madeCells #[Value.int .i64 0] 0 = #[] := Array.eq_empty_of_size_eq_zero (by simp [madeCells])
    rw [e]
    simp [goInt]
  | cons x l =>
    obtain ⟨cb, co, rfl, hcb, _⟩ := hsrc 0 x rfl
    exact run_copy_made w0 m cb co cap (x :: l) hm hcb (fun j v hj => by obtain ⟨_, _, e, _, h⟩ := hsrc j v hj; cases e; exact h)

theorem below_drewN (B : Nat) (w : World) (q : Nat) : Below B w (w.drewN q) := ⟨rfl, rfl, rfl, Nat.le_refl _, fun _ _ => rfl⟩

set_option maxHeartbeats 4000000 in
theorem law_A (ans : List Bool) (cs : List Int) (aa : Option Addr) (acap : Nat) (cx : Addr) (ccap : Nat) (w : World) (hn : ans.length ≤ 65536) (hm : cs.length ≤ 65536)
    (hans : ∀ (j : Nat) b, ans[j]? = some b → ∃ ab ao, aa = some ⟨ab, ao, none⟩ ∧ ab < w.heap.size ∧ w.cell? ⟨ab, ao + j, none⟩ = some (.bool b))
    (hcols : ∀ (j : Nat) v, cs[j]? = some v → ∃ cb co, cx = ⟨cb, co, none⟩ ∧ cb < w.heap.size ∧ w.cell? ⟨cb, co + j, none⟩ = some (.int .i64 v)) :
    Calls Yba.prog 3 #[.slice aa ans.length acap, .slice (some cx) cs.length ccap] w fun e w' => e = .returned (.bool true) ∧ Below w.heap.size w w' := by
  obtain ⟨n, hnn⟩ : ∃ n, n = ans.length := ⟨_, rfl⟩
  obtain ⟨m, hmm⟩ : ∃ m, m = cs.length := ⟨_, rfl⟩
  rw [← hnn, ← hmm]
  rw [← hnn] at hn
  rw [← hmm] at hm
  have HN : Hid (n = ans.length) := hnn
  have HM : Hid (m = cs.length) := hmm
  clear hnn hmm
  have q1 := fun (w : World) (a : Option Addr) (n c n' c' : Nat) => run_neq_slice_nil_any (P := Yba.prog) w _ _ a n c n' c' Yba.underlying23
  have q2 := fun (w : World) (a : Option Addr) (n c n' c' : Nat) => Lib.run_eql_slice_nil (P := Yba.prog) w _ _ a n c n' c' Yba.underlying23
  have mk1 := run_make_row' (P := Yba.prog) 23 3 (.int .i64 0) 8 Yba.underlying23 info3 rfl .i64 .i64 m (by omega) (by omega)
  have mk2 := run_make_row' (P := Yba.prog) 32 39 .nilIface 16 Yba.underlying32 info39 rfl .i64 .i64 n (by omega) (by omega)
  have cpy := run_copy_any w m cx ccap cs HM.out.symm hcols
  obtain ⟨w0, hw0⟩ : ∃ w0, w0 = w.alloc (.cells (cs.map fun x => Value.int .i64 x).toArray 3) := ⟨_, rfl⟩
  have hz0 : w0.heap.size = w.heap.size + 1 := by rw [hw0]; simp
  have B0 : Below w.heap.size w w0 := by rw [hw0]; exact (Below.refl _ _).alloc (Nat.le_refl _) _
  have C0 : ∀ (j : Nat) v, cs[j]? = some v → w0.cell? ⟨w.heap.size, j, none⟩ = some (.int .i64 v) := fun j v hj => by
    rw [hw0, cell_of_row _ _ _ _ _ _ (heap_alloc_last w _)]; simp [hj]
  rw [← hw0] at cpy
  have HB : Hid (Below w.heap.size w w0) := B0
  have HC : Hid (∀ (j : Nat) v, cs[j]? = some v → w0.cell? ⟨w.heap.size, j, none⟩ = some (.int .i64 v)) := C0
  have HZ : Hid (w0.heap.size = w.heap.size + 1) := hz0
  clear hw0 B0 C0 hz0
  go_enter Yba.func3, Yba.ntmps3
  go_wp2
  clear cpy mk1 mk2 q1
  obtain ⟨K, hK⟩ : ∃ K, K = w0.heap.size := ⟨_, rfl⟩
  have h0 := St1.start w0 K n ans (.slice (some ⟨w.heap.size, 0, none⟩) m m) hK
  unfold built at h0
  rw [← hK]
  have HK : Hid (K = w.heap.size + 1) := hK.trans HZ.out
  clear hK
  go_loopw [10] (fun i wr => ∃ k : Nat, k ≤ n ∧ i = .int .i64 k ∧ St1 w0 wr K k n ans (.slice (some ⟨w.heap.size, 0, none⟩) m m)) (fun i _ => n - (intOf i).toNat)
  case atStart => exact ⟨0, Nat.zero_le _, rfl, h0⟩
  case round =>
    rename World => w1
    obtain ⟨k, hk, rfl, hS⟩ := hrel
    clear h0
    have HS : Hid (St1 w0 w1 K k n ans (.slice (some ⟨w.heap.size, 0, none⟩) m m)) := hS
    by_cases hlt : k < n
    · obtain ⟨b, hb⟩ : ∃ b, ans[k]? = some b := ⟨ans[k]'(by have := HN.out; omega), List.getElem?_eq_getElem _⟩
      obtain ⟨ab, ao, rfl, hab, hac⟩ := hans k b hb
      have ea := (hS.bel.cell (p := ⟨ab, ao + k, none⟩) (by have := HK.out; simp; omega)).trans ((HB.out.cell (p := ⟨ab, ao + k, none⟩) hab).trans hac)
      have r1 := hS.row.cell hlt
      have r2 := hS.row.frozen k
      have r3 : K + 4 < w1.heap.size := by have := hS.sz; omega
      clear hS hac
      go_wp2
      go_roundw
      case rel => exact ⟨k + 1, by omega, by go_num, by rw [← World.setCell_alloc_past _ _ _ _ (by first | omega | (simp; omega))]; exact HS.out.step hb⟩
      case measure => simp [intOf]; omega
    · have hke : k = n := by omega
      subst hke
      clear hS
      rcases stops ans with ⟨J, hJ1, hJ2⟩ | hall
      · have hq := asked_at ans J hJ2 hJ1
        have hJn : J < k := by rw [HN.out]; exact (List.getElem?_eq_some_iff.1 hJ1).1
        have hcall := any_holds ans (K + 4) (K + 5) K (K + 2) (K + 3) (K + 1) K _ w1 (by have := HN.out; omega) (HS.out.terms HN.out) (by have := HS.out.sz; omega) (by omega) HS.out.ask (by omega) (by omega) (by have := HS.out.sz; omega) (by omega) (by omega) (by have := HS.out.sz; have := HN.out; omega) (by omega)
        rw [hq.1, hq.2, ← HN.out] at hcall
        have HCALL : Hid (Calls Yba.prog 6 _ w1 _) := hcall
        clear hcall hq
        go_wp2_with (first
          | (go_at_call 6; refine HCALL.out.mono ?_; rintro e w9 ⟨rfl, lv9, hA9⟩; obtain ⟨lx, lc, hF⟩ := Fin.of HS.out hA9; have HF : Hid (Fin w0 w9 K (J + 1) lx lc (.slice (some ⟨w.heap.size, 0, none⟩) m m)) := hF; clear hA9 hF)
          | go_in)
        go_loopw [12, 13, 14] (fun wv nv i wr => ∃ j : Nat, j ≤ J ∧ i = .int .i64 j ∧ wv = .bool false ∧ nv = .int .i64 k ∧ w9 = wr) (fun _ _ i _ => k - (intOf i).toNat)
        case atStart => exact ⟨0, Nat.zero_le _, rfl, by simp⟩
        case round =>
          obtain ⟨j, hj, rfl, rfl, rfl, rfl⟩ := hrel
          have hjk : j < k := by omega
          by_cases hjJ : j < J
          · obtain ⟨ab, ao, rfl, hab, hac⟩ := hans j false (hJ2 j hjJ)
            have ea := (HF.out.bel.cell (p := ⟨ab, ao + j, none⟩) (by have := HK.out; simp; omega)).trans ((HB.out.cell (p := ⟨ab, ao + j, none⟩) hab).trans hac)
            clear hac
            go_wp2
            go_roundw
            case rel => exact ⟨j + 1, by omega, by go_num, by simp⟩
            case measure => simp [intOf]; omega
          · have hjJ' : j = J := by omega
            subst hjJ'
            obtain ⟨ab, ao, rfl, hab, hac⟩ := hans j true hJ1
            have ea := (HF.out.bel.cell (p := ⟨ab, ao + j, none⟩) (by have := HK.out; simp; omega)).trans ((HB.out.cell (p := ⟨ab, ao + j, none⟩) hab).trans hac)
            clear hac
            have f1 := HF.out.log
            have f2 := HF.out.same
            have f3 := HF.out.scp
            go_wp2
            go_loopw [15] (fun i wr => ∃ t : Nat, t ≤ (j + 1) ∧ i = .int .i64 t ∧ w9 = wr) (fun i _ => (j + 1) - (intOf i).toNat)
            case atStart => exact ⟨0, Nat.zero_le _, rfl, by simp⟩
            case round =>
              obtain ⟨t, ht, rfl, rfl⟩ := hrel
              by_cases htl : t < (j + 1)
              · obtain ⟨g, rfl, f4⟩ := HF.out.logc t htl
                go_wp2
                go_roundw
                case rel => exact ⟨t + 1, by omega, by go_num, by simp⟩
                case measure => simp [intOf]; omega
              · go_wp2
                go_loopw [16] (fun i wr => ∃ (t nq : Nat), t ≤ m ∧ i = .int .i64 t ∧ wr = w9.drewN nq) (fun i _ => m - (intOf i).toNat)
                case atStart => exact ⟨0, 0, Nat.zero_le _, rfl, by first | rfl | simp⟩
                case round =>
                  obtain ⟨t2, nq0, ht2, rfl, rfl⟩ := hrel
                  by_cases htm : t2 < m
                  · obtain ⟨v, hv⟩ : ∃ v, cs[t2]? = some v := ⟨cs[t2]'(by have := HM.out; omega), List.getElem?_eq_getElem _⟩
                    have x1 := (HF.out.bel.cell (p := ⟨w.heap.size, t2, none⟩) (by have := HK.out; simp; omega)).trans (HC.out t2 v hv)
                    obtain ⟨cb, co, rfl, hcb, hcc⟩ := hcols t2 v hv
                    have x2 := (HF.out.bel.cell (p := ⟨cb, co + t2, none⟩) (by have := HK.out; simp; omega)).trans ((HB.out.cell (p := ⟨cb, co + t2, none⟩) hcb).trans hcc)
                    clear hcc
                    have b1 : (0 : Int) ≤ (t2 : Int) := by omega
                    have b2 : (t2 : Int) < (m : Int) := by omega
                    go_wp2
                    go_quiet (fail)
                    go_wp2
                    go_roundw
                    case rel => exact ⟨t2 + 1, _, by omega, by go_num, by first | rfl | exact drewN2 _ _ _⟩
                    case measure => simp [intOf]; omega
                  · go_wp2
                    go_ret
                    exact ⟨by first | rfl | simp, HB.out.trans ((HF.out.bel.mono (by have := HK.out; omega)).trans (below_drewN _ _ _))⟩
      · have hq := asked_none ans hall
        have hcall := any_holds ans (K + 4) (K + 5) K (K + 2) (K + 3) (K + 1) K _ w1 (by have := HN.out; omega) (HS.out.terms HN.out) (by have := HS.out.sz; omega) (by omega) HS.out.ask (by omega) (by omega) (by have := HS.out.sz; omega) (by omega) (by omega) (by have := HS.out.sz; have := HN.out; omega) (by omega)
        rw [hq.1, hq.2, ← HN.out] at hcall
        have HCALL : Hid (Calls Yba.prog 6 _ w1 _) := hcall
        clear hcall hq
        go_wp2_with (first
          | (go_at_call 6; refine HCALL.out.mono ?_; rintro e w9 ⟨rfl, lv9, hA9⟩; obtain ⟨lx, lc, hF⟩ := Fin.of HS.out hA9; have HF : Hid (Fin w0 w9 K k lx lc (.slice (some ⟨w.heap.size, 0, none⟩) m m)) := hF; clear hA9 hF)
          | go_in)
        go_loopw [12, 13, 14] (fun wv nv i wr => ∃ j : Nat, j ≤ k ∧ i = .int .i64 j ∧ wv = .bool false ∧ nv = .int .i64 k ∧ w9 = wr) (fun _ _ i _ => k - (intOf i).toNat)
        case atStart => exact ⟨0, Nat.zero_le _, rfl, by simp⟩
        case round =>
          obtain ⟨j, hj, rfl, rfl, rfl, rfl⟩ := hrel
          by_cases hjk : j < k
          · obtain ⟨ab, ao, rfl, hab, hac⟩ := hans j false (hall j (by have := HN.out; omega))
            have ea := (HF.out.bel.cell (p := ⟨ab, ao + j, none⟩) (by have := HK.out; simp; omega)).trans ((HB.out.cell (p := ⟨ab, ao + j, none⟩) hab).trans hac)
            clear hac
            go_wp2
            go_roundw
            case rel => exact ⟨j + 1, by omega, by go_num, by simp⟩
            case measure => simp [intOf]; omega
          · have hjJ' : j = k := by omega
            subst hjJ'
            have f1 := HF.out.log
            have f2 := HF.out.same
            have f3 := HF.out.scp
            go_wp2
            go_loopw [15] (fun i wr => ∃ t : Nat, t ≤ j ∧ i = .int .i64 t ∧ w9 = wr) (fun i _ => j - (intOf i).toNat)
            case atStart => exact ⟨0, Nat.zero_le _, rfl, by simp⟩
            case round =>
              obtain ⟨t, ht, rfl, rfl⟩ := hrel
              by_cases htl : t < j
              · obtain ⟨g, rfl, f4⟩ := HF.out.logc t htl
                go_wp2
                go_roundw
                case rel => exact ⟨t + 1, by omega, by go_num, by simp⟩
                case measure => simp [intOf]; omega
              · go_wp2
                go_loopw [16] (fun i wr => ∃ (t nq : Nat), t ≤ m ∧ i = .int .i64 t ∧ wr = w9.drewN nq) (fun i _ => m - (intOf i).toNat)
                case atStart => exact ⟨0, 0, Nat.zero_le _, rfl, by first | rfl | simp⟩
                case round =>
                  obtain ⟨t2, nq0, ht2, rfl, rfl⟩ := hrel
                  by_cases htm : t2 < m
                  · obtain ⟨v, hv⟩ : ∃ v, cs[t2]? = some v := ⟨cs[t2]'(by have := HM.out; omega), List.getElem?_eq_getElem _⟩
                    have x1 := (HF.out.bel.cell (p := ⟨w.heap.size, t2, none⟩) (by have := HK.out; simp; omega)).trans (HC.out t2 v hv)
                    obtain ⟨cb, co, rfl, hcb, hcc⟩ := hcols t2 v hv
                    have x2 := (HF.out.bel.cell (p := ⟨cb, co + t2, none⟩) (by have := HK.out; simp; omega)).trans ((HB.out.cell (p := ⟨cb, co + t2, none⟩) hcb).trans hcc)
                    clear hcc
                    have b1 : (0 : Int) ≤ (t2 : Int) := by omega
                    have b2 : (t2 : Int) < (m : Int) := by omega
                    go_wp2
                    go_quiet (fail)
                    go_wp2
                    go_roundw
                    case rel => exact ⟨t2 + 1, _, by omega, by go_num, by first | rfl | exact drewN2 _ _ _⟩
                    case measure => simp [intOf]; omega
                  · go_wp2
                    go_ret
                    exact ⟨by first | rfl | simp, HB.out.trans ((HF.out.bel.mono (by have := HK.out; omega)).trans (below_drewN _ _ _))⟩

set_option maxHeartbeats 4000000 in
theorem law_A_nil (ans : List Bool) (aa : Option Addr) (acap : Nat) (w : World) (hn : ans.length ≤ 65536)
    (hans : ∀ (j : Nat) b, ans[j]? = some b → ∃ ab ao, aa = some ⟨ab, ao, none⟩ ∧ ab < w.heap.size ∧ w.cell? ⟨ab, ao + j, none⟩ = some (.bool b)) :
    Calls Yba.prog 3 #[.slice aa ans.length acap, .slice none 0 0] w fun e w' => e = .returned (.bool true) ∧ Below w.heap.size w w' := by
  obtain ⟨n, hnn⟩ : ∃ n, n = ans.length := ⟨_, rfl⟩
  rw [← hnn]
  rw [← hnn] at hn
  have HN : Hid (n = ans.length) := hnn
  clear hnn
  have q1 := fun (w : World) (a : Option Addr) (n c n' c' : Nat) => run_neq_slice_nil_any (P := Yba.prog) w _ _ a n c n' c' Yba.underlying23
  have q2 := fun (w : World) (a : Option Addr) (n c n' c' : Nat) => Lib.run_eql_slice_nil (P := Yba.prog) w _ _ a n c n' c' Yba.underlying23
  have mk2 := run_make_row' (P := Yba.prog) 32 39 .nilIface 16 Yba.underlying32 info39 rfl .i64 .i64 n (by omega) (by omega)
  go_enter Yba.func3, Yba.ntmps3
  go_wp2
  clear mk2 q1
  obtain ⟨K, hK⟩ : ∃ K, K = w.heap.size := ⟨_, rfl⟩
  have h0 := St1.start w K n ans (.slice none 0 0) hK
  unfold built at h0
  rw [← hK]
  have HK : Hid (K = w.heap.size) := hK
  clear hK
  go_loopw [10] (fun i wr => ∃ k : Nat, k ≤ n ∧ i = .int .i64 k ∧ St1 w wr K k n ans (.slice none 0 0)) (fun i _ => n - (intOf i).toNat)
  case atStart => exact ⟨0, Nat.zero_le _, rfl, h0⟩
  case round =>
    rename World => w1
    obtain ⟨k, hk, rfl, hS⟩ := hrel
    clear h0
    have HS : Hid (St1 w w1 K k n ans (.slice none 0 0)) := hS
    by_cases hlt : k < n
    · obtain ⟨b, hb⟩ : ∃ b, ans[k]? = some b := ⟨ans[k]'(by have := HN.out; omega), List.getElem?_eq_getElem _⟩
      obtain ⟨ab, ao, rfl, hab, hac⟩ := hans k b hb
      have ea := (hS.bel.cell (p := ⟨ab, ao + k, none⟩) (by have := HK.out; simp; omega)).trans hac
      have r1 := hS.row.cell hlt
      have r2 := hS.row.frozen k
      have r3 : K + 4 < w1.heap.size := by have := hS.sz; omega
      clear hS hac
      go_wp2
      go_roundw
      case rel => exact ⟨k + 1, by omega, by go_num, by rw [← World.setCell_alloc_past _ _ _ _ (by first | omega | (simp; omega))]; exact HS.out.step hb⟩
      case measure => simp [intOf]; omega
    · have hke : k = n := by omega
      subst hke
      clear hS
      rcases stops ans with ⟨J, hJ1, hJ2⟩ | hall
      · have hq := asked_at ans J hJ2 hJ1
        have hJn : J < k := by rw [HN.out]; exact (List.getElem?_eq_some_iff.1 hJ1).1
        have hcall := any_holds ans (K + 4) (K + 5) K (K + 2) (K + 3) (K + 1) K _ w1 (by have := HN.out; omega) (HS.out.terms HN.out) (by have := HS.out.sz; omega) (by omega) HS.out.ask (by omega) (by omega) (by have := HS.out.sz; omega) (by omega) (by omega) (by have := HS.out.sz; have := HN.out; omega) (by omega)
        rw [hq.1, hq.2, ← HN.out] at hcall
        have HCALL : Hid (Calls Yba.prog 6 _ w1 _) := hcall
        clear hcall hq
        go_wp2_with (first
          | (go_at_call 6; refine HCALL.out.mono ?_; rintro e w9 ⟨rfl, lv9, hA9⟩; obtain ⟨lx, lc, hF⟩ := Fin.of HS.out hA9; have HF : Hid (Fin w w9 K (J + 1) lx lc (.slice none 0 0)) := hF; clear hA9 hF)
          | go_in)
        go_loopw [12, 13, 14] (fun wv nv i wr => ∃ j : Nat, j ≤ J ∧ i = .int .i64 j ∧ wv = .bool false ∧ nv = .int .i64 k ∧ w9 = wr) (fun _ _ i _ => k - (intOf i).toNat)
        case atStart => exact ⟨0, Nat.zero_le _, rfl, by simp⟩
        case round =>
          obtain ⟨j, hj, rfl, rfl, rfl, rfl⟩ := hrel
          have hjk : j < k := by omega
          by_cases hjJ : j < J
          · obtain ⟨ab, ao, rfl, hab, hac⟩ := hans j false (hJ2 j hjJ)
            have ea := (HF.out.bel.cell (p := ⟨ab, ao + j, none⟩) (by have := HK.out; simp; omega)).trans hac
            clear hac
            go_wp2
            go_roundw
            case rel => exact ⟨j + 1, by omega, by go_num, by simp⟩
            case measure => simp [intOf]; omega
          · have hjJ' : j = J := by omega
            subst hjJ'
            obtain ⟨ab, ao, rfl, hab, hac⟩ := hans j true hJ1
            have ea := (HF.out.bel.cell (p := ⟨ab, ao + j, none⟩) (by have := HK.out; simp; omega)).trans hac
            clear hac
            have f1 := HF.out.log
            have f2 := HF.out.same
            have f3 := HF.out.scp
            go_wp2
            go_loopw [15] (fun i wr => ∃ t : Nat, t ≤ (j + 1) ∧ i = .int .i64 t ∧ w9 = wr) (fun i _ => (j + 1) - (intOf i).toNat)
            case atStart => exact ⟨0, Nat.zero_le _, rfl, by simp⟩
            case round =>
              obtain ⟨t, ht, rfl, rfl⟩ := hrel
              by_cases htl : t < (j + 1)
              · obtain ⟨g, rfl, f4⟩ := HF.out.logc t htl
                go_wp2
                go_roundw
                case rel => exact ⟨t + 1, by omega, by go_num, by simp⟩
                case measure => simp [intOf]; omega
              · go_wp2
                go_loopw [16] (fun i wr => ∃ (t nq : Nat), t ≤ 0 ∧ i = .int .i64 t ∧ wr = w9.drewN nq) (fun i _ => 0 - (intOf i).toNat)
                case atStart => exact ⟨0, 0, Nat.zero_le _, rfl, by first | rfl | simp⟩
                case round =>
                  obtain ⟨t2, nq0, ht2, rfl, rfl⟩ := hrel
                  by_cases htm : t2 < 0
                  · omega
                  · go_wp2
                    go_ret
                    exact ⟨by first | rfl | simp, (HF.out.bel.mono (by have := HK.out; omega)).trans (below_drewN _ _ _)⟩
      · have hq := asked_none ans hall
        have hcall := any_holds ans (K + 4) (K + 5) K (K + 2) (K + 3) (K + 1) K _ w1 (by have := HN.out; omega) (HS.out.terms HN.out) (by have := HS.out.sz; omega) (by omega) HS.out.ask (by omega) (by omega) (by have := HS.out.sz; omega) (by omega) (by omega) (by have := HS.out.sz; have := HN.out; omega) (by omega)
        rw [hq.1, hq.2, ← HN.out] at hcall
        have HCALL : Hid (Calls Yba.prog 6 _ w1 _) := hcall
        clear hcall hq
        go_wp2_with (first
          | (go_at_call 6; refine HCALL.out.mono ?_; rintro e w9 ⟨rfl, lv9, hA9⟩; obtain ⟨lx, lc, hF⟩ := Fin.of HS.out hA9; have HF : Hid (Fin w w9 K k lx lc (.slice none 0 0)) := hF; clear hA9 hF)
          | go_in)
        go_loopw [12, 13, 14] (fun wv nv i wr => ∃ j : Nat, j ≤ k ∧ i = .int .i64 j ∧ wv = .bool false ∧ nv = .int .i64 k ∧ w9 = wr) (fun _ _ i _ => k - (intOf i).toNat)
        case atStart => exact ⟨0, Nat.zero_le _, rfl, by simp⟩
        case round =>
          obtain ⟨j, hj, rfl, rfl, rfl, rfl⟩ := hrel
          by_cases hjk : j < k
          · obtain ⟨ab, ao, rfl, hab, hac⟩ := hans j false (hall j (by have := HN.out; omega))
            have ea := (HF.out.bel.cell (p := ⟨ab, ao + j, none⟩) (by have := HK.out; simp; omega)).trans hac
            clear hac
            go_wp2
            go_roundw
            case rel => exact ⟨j + 1, by omega, by go_num, by simp⟩
            case measure => simp [intOf]; omega
          · have hjJ' : j = k := by omega
            subst hjJ'
            have f1 := HF.out.log
            have f2 := HF.out.same
            have f3 := HF.out.scp
            go_wp2
            go_loopw [15] (fun i wr => ∃ t : Nat, t ≤ j ∧ i = .int .i64 t ∧ w9 = wr) (fun i _ => j - (intOf i).toNat)
            case atStart => exact ⟨0, Nat.zero_le _, rfl, by simp⟩
            case round =>
              obtain ⟨t, ht, rfl, rfl⟩ := hrel
              by_cases htl : t < j
              · obtain ⟨g, rfl, f4⟩ := HF.out.logc t htl
                go_wp2
                go_roundw
                case rel => exact ⟨t + 1, by omega, by go_num, by simp⟩
                case measure => simp [intOf]; omega
              · go_wp2
                go_loopw [16] (fun i wr => ∃ (t nq : Nat), t ≤ 0 ∧ i = .int .i64 t ∧ wr = w9.drewN nq) (fun i _ => 0 - (intOf i).toNat)
                case atStart => exact ⟨0, 0, Nat.zero_le _, rfl, by first | rfl | simp⟩
                case round =>
                  obtain ⟨t2, nq0, ht2, rfl, rfl⟩ := hrel
                  by_cases htm : t2 < 0
                  · omega
                  · go_wp2
                    go_ret
                    exact ⟨by first | rfl | simp, (HF.out.bel.mono (by have := HK.out; omega)).trans (below_drewN _ _ _)⟩


theorem law_big (aa : Option Addr) (n acap : Nat) (ca : Option Addr) (m ccap : Nat) (w : World) (hn : 65536 < (n : Int)) (hn2 : n ≤ maxLen) (hm2 : m ≤ maxLen) :
    Calls Yba.prog 3 #[.slice aa n acap, .slice ca m ccap] w fun e w' => e = .returned (.bool true) ∧ Below w.heap.size w w' := by
  unfold maxLen at hn2 hm2
  go_enter Yba.func3, Yba.ntmps3
  go_wp2
  go_ret
  exact ⟨rfl, Below.refl _ _⟩

theorem law_big2 (aa : Option Addr) (n acap : Nat) (ca : Option Addr) (m ccap : Nat) (w : World) (hn : ¬ 65536 < (n : Int)) (hm : 65536 < (m : Int)) (hn2 : n ≤ maxLen) (hm2 : m ≤ maxLen) :
    Calls Yba.prog 3 #[.slice aa n acap, .slice ca m ccap] w fun e w' => e = .returned (.bool true) ∧ Below w.heap.size w w' := by
  unfold maxLen at hn2 hm2
  go_enter Yba.func3, Yba.ntmps3
  go_wp2
  go_ret
  exact ⟨rfl, Below.refl _ _⟩
end Go.Proofs.Ybulkdxte
