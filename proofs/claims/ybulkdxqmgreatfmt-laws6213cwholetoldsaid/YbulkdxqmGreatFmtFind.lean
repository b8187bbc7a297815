/- LawS6213CWhole: sort.Find, before and its closure by their contracts. -/
import Derived.Test.YbulkdxqmGreatFmtSum
namespace Go.Proofs.YbulkdxqmGreatFmt
set_option linter.unusedVariables false
set_option linter.unusedSimpArgs false
open Go.RowKit

set_option maxHeartbeats 1000000 in
theorem find59 (n t : Nat) (p1 p2 p3 : Value) (cf : Nat → Int) (w : World) (hn : n ≤ 1000) (ht : t ≤ n) (h1 : ∀ i, i < t → 0 < cf i) (h2 : ∀ i, t ≤ i → i < n → cf i < 0)
    (hf : ∀ q i, i < n → Calls Ybaz.prog 60 #[.int .i64 (i : Nat), p1, p2, p3] (w.drewN q) fun e w' => e = .returned (.int .i64 (cf i)) ∧ ∃ q', w' = w.drewN q') :
    Calls Ybaz.prog 59 #[.int .i64 n, .func (.func 60) #[] #[p1, p2, p3]] w fun e w' => e = .returned (.tuple #[.int .i64 t, .bool false]) ∧ ∃ q, w' = w.drewN q := by
  have HF : Hid (∀ q i, i < n → Calls Ybaz.prog 60 #[.int .i64 (i : Nat), p1, p2, p3] (w.drewN q) fun e w' => e = .returned (.int .i64 (cf i)) ∧ ∃ q', w' = w.drewN q') := hf
  have H1 : Hid (∀ i, i < t → 0 < cf i) := h1
  have H2 : Hid (∀ i, t ≤ i → i < n → cf i < 0) := h2
  clear hf h1 h2
  go_enter Ybaz.func59, Ybaz.ntmps59
  go_wp2
  go_loopw [4, 6] (fun vi vj wr => ∃ i j q : Nat, i ≤ t ∧ t ≤ j ∧ j ≤ n ∧ vi = .int .i64 i ∧ vj = .int .i64 j ∧ wr = w.drewN q) (fun vi vj _ => (intOf vj).toNat - (intOf vi).toNat)
  case atStart => exact ⟨0, n, 0, Nat.zero_le _, ht, Nat.le_refl _, rfl, rfl, rfl⟩
  case round =>
    obtain ⟨i, j, q, hi, hj, hjn, rfl, rfl, rfl⟩ := hrel
    by_cases hlt : i < j
    · have k1 : (i : Int) < (j : Int) := by omega
      obtain ⟨h, hh⟩ : ∃ h : Nat, Hid (h = (i + j) / 2) := ⟨_, rfl⟩
      have k2 : IntKind.i64.wrap ((i : Int) + (j : Int)) = (i : Int) + (j : Int) := by rw [IntKind.wrap_i64]; omega
      have kh : ((i : Int) + (j : Int)) / 2 = (h : Int) := by have := hh.out; omega
      have hhi : i ≤ h ∧ h < j := by have := hh.out; omega
      have hhn : h < n := by omega
      by_cases hlt2 : h < t
      · have s1 : 0 < cf h := H1.out h hlt2
        go_wp2_with (first | (go_at_call 60; refine (HF.out q h hhn).mono ?_; rintro e w1 ⟨rfl, q1, rfl⟩) | go_in)
        go_roundw
        case rel => exact ⟨h + 1, j, q1, by omega, by omega, by omega, by go_num, rfl, rfl⟩
        case measure => simp [intOf]; omega
      · have s1 : cf h < 0 := H2.out h (by omega) hhn
        have s2 : ¬ (0 < cf h) := by omega
        go_wp2_with (first | (go_at_call 60; refine (HF.out q h hhn).mono ?_; rintro e w1 ⟨rfl, q1, rfl⟩) | go_in)
        go_roundw
        case rel => exact ⟨i, h, q1, by omega, by omega, by omega, rfl, rfl, rfl⟩
        case measure => simp [intOf]; omega
    · have hit : i = t := by omega
      subst hit
      by_cases hin : i < n
      · have s1 : cf i < 0 := H2.out i (Nat.le_refl _) hin
        have s2 : ¬ (cf i = 0) := by omega
        have s3 : (cf i == 0) = false := by simp; omega
        have k1 : (i : Int) < (n : Int) := by omega
        go_wp2_with (first | (go_at_call 60; refine (HF.out q i hin).mono ?_; rintro e w1 ⟨rfl, q1, rfl⟩) | go_in)
        go_ret2
        exact ⟨rfl, q1, rfl⟩
      · go_wp2_with (first | (go_at_call 60; fail) | go_in)
        go_ret2
        exact ⟨rfl, q, rfl⟩

set_option maxHeartbeats 1000000 in
/-- before's closure: compare(j, at(k)). -/
theorem clos60_36 (bq bj ba qb qo j x b a n c k kd f : Nat) (idj idf : Int) (w : World) (hq : w.cell? ⟨bq, 0, none⟩ = some (.pointer (some ⟨qb, qo, none⟩))) (hj : w.cell? ⟨bj, 0, none⟩ = some (.pointer (some ⟨j, 0, none⟩))) (ha : w.cell? ⟨ba, 0, none⟩ = some (.func (.func 36) #[] #[.pointer (some ⟨x, 0, none⟩)])) (hc : w.cell? ⟨qb, qo, none⟩ = some (.func (.func 4) #[] #[]))
    (hx : w.cell? ⟨x, 0, none⟩ = some (.pointer (some ⟨b, 0, none⟩))) (h1 : w.cell? ⟨b, 1, none⟩ = some (.slice (some ⟨a, 0, none⟩) n c)) (hk : k < n) (hka : w.cell? ⟨a, k, none⟩ = some (.pointer (some ⟨kd, 0, none⟩))) (hf : w.cell? ⟨kd, 4, none⟩ = some (.pointer (some ⟨f, 0, none⟩))) (hij : w.cell? ⟨j, 6, none⟩ = some (.int .i64 idj)) (hif : w.cell? ⟨f, 6, none⟩ = some (.int .i64 idf)) :
    Calls Ybaz.prog 60 #[.int .i64 k, .pointer (some ⟨bq, 0, none⟩), .pointer (some ⟨bj, 0, none⟩), .pointer (some ⟨ba, 0, none⟩)] w fun e w' => e = .returned (.int .i64 (cmpI idj idf)) ∧ ∃ q, w' = w.drewN q := by
  go_enter Ybaz.func60, Ybaz.ntmps60
  go_upto_region 1 with fail
  go_quiet (first
    | (go_at_call 36; refine Calls.quiet_of_same (kid36 x b a n c k kd f (w.drewN _) hx h1 hk hka hf))
    | (go_at_call 4; refine Calls.quiet_of (byID4 j f idj idf (w.drewN _) hij hif)))
  go_wp2
  go_ret
  exact ⟨rfl, _, rfl⟩

set_option maxHeartbeats 2000000 in
/-- before: t of the n jobs come before j. -/
theorem before_36 (qb qo j x b a n m c t : Nat) (K : Nat → Nat) (F : Nat → Nat) (ids : Nat → Int) (idj : Int) (w : World) (hnm : n = m + 1) (hn : n ≤ 1000) (ht : t ≤ n) (hc : w.cell? ⟨qb, qo, none⟩ = some (.func (.func 4) #[] #[]))
    (hx : w.cell? ⟨x, 0, none⟩ = some (.pointer (some ⟨b, 0, none⟩))) (h1 : w.cell? ⟨b, 1, none⟩ = some (.slice (some ⟨a, 0, none⟩) n c)) (hk : ∀ i, i < n → w.cell? ⟨a, i, none⟩ = some (.pointer (some ⟨K i, 0, none⟩)) ∧ w.cell? ⟨K i, 4, none⟩ = some (.pointer (some ⟨F i, 0, none⟩)) ∧ w.cell? ⟨F i, 6, none⟩ = some (.int .i64 (ids i))) (hij : w.cell? ⟨j, 6, none⟩ = some (.int .i64 idj))
    (hlo : ∀ i, i < t → ids i < idj) (hhi : ∀ i, t ≤ i → i < n → idj < ids i) :
    Calls Ybaz.prog 35 #[.pointer (some ⟨qb, qo, none⟩), .pointer (some ⟨j, 0, none⟩), .int .i64 n, .func (.func 36) #[] #[.pointer (some ⟨x, 0, none⟩)]] w fun e w' => e = .returned (.int .i64 t) ∧ Below w.heap.size w w' := by
  obtain ⟨w3, hw3⟩ : ∃ w3, w3 = ((w.alloc (.cells #[.pointer (some ⟨qb, qo, none⟩)] 37)).alloc (.cells #[.pointer (some ⟨j, 0, none⟩)] 23)).alloc (.cells #[.func (.func 36) #[] #[.pointer (some ⟨x, 0, none⟩)]] 144) := ⟨_, rfl⟩
  have B3 : Below w.heap.size w w3 := by rw [hw3]; exact (((Below.refl _ _).alloc (Nat.le_refl _) _).alloc (by simp) _).alloc (by simp; omega) _
  have b1 : w3.cell? ⟨w.heap.size, 0, none⟩ = some (.pointer (some ⟨qb, qo, none⟩)) := by
    have h : w3.heap[w.heap.size]? = some (.cells #[.pointer (some ⟨qb, qo, none⟩)] 37) := by rw [hw3, Below.heap_alloc _ _ _ (by simp; omega), Below.heap_alloc _ _ _ (by simp), heap_alloc_new]
    rw [cell_of_row _ _ _ _ _ _ h]; rfl
  have b2 : w3.cell? ⟨w.heap.size + 1, 0, none⟩ = some (.pointer (some ⟨j, 0, none⟩)) := by
    have h : w3.heap[w.heap.size + 1]? = some (.cells #[.pointer (some ⟨j, 0, none⟩)] 23) := by
      rw [hw3, Below.heap_alloc _ _ _ (by simp)]
      have := heap_alloc_new (w.alloc (.cells #[.pointer (some ⟨qb, qo, none⟩)] 37)) (.cells #[.pointer (some ⟨j, 0, none⟩)] 23)
      simpa using this
    rw [cell_of_row _ _ _ _ _ _ h]; rfl
  have b3 : w3.cell? ⟨w.heap.size + 2, 0, none⟩ = some (.func (.func 36) #[] #[.pointer (some ⟨x, 0, none⟩)]) := by
    have h : w3.heap[w.heap.size + 2]? = some (.cells #[.func (.func 36) #[] #[.pointer (some ⟨x, 0, none⟩)]] 144) := by rw [hw3]; exact heap_top3 _ _ _ _
    rw [cell_of_row _ _ _ _ _ _ h]; rfl
  have lift : ∀ y i v, w.cell? ⟨y, i, none⟩ = some v → w3.cell? ⟨y, i, none⟩ = some v := fun y i v h => (B3.cell (p := ⟨y, i, none⟩) (World.block_lt_of_cell? _ _ h)).trans h
  have c0 := lift _ _ _ hc
  have cx := lift _ _ _ hx
  have c1 := lift _ _ _ h1
  have cj := lift _ _ _ hij
  have HK : Hid (∀ i, i < n → w3.cell? ⟨a, i, none⟩ = some (.pointer (some ⟨K i, 0, none⟩)) ∧ w3.cell? ⟨K i, 4, none⟩ = some (.pointer (some ⟨F i, 0, none⟩)) ∧ w3.cell? ⟨F i, 6, none⟩ = some (.int .i64 (ids i))) := fun i hi => ⟨lift _ _ _ (hk i hi).1, lift _ _ _ (hk i hi).2.1, lift _ _ _ (hk i hi).2.2⟩
  have HB : Hid (Below w.heap.size w w3) := B3
  have hm : m < n := by omega
  have cm := HK.out m hm
  have n1 : (n : Int) - 1 = (m : Int) := by omega
  have n2 : IntKind.i64.wrap (m : Int) = (m : Int) := by rw [IntKind.wrap_i64]; omega
  have HNM : Hid (n = m + 1) := hnm
  have HLO : Hid (∀ i, i < t → ids i < idj) := hlo
  have HHI : Hid (∀ i, t ≤ i → i < n → idj < ids i) := hhi
  clear B3 lift hc hx h1 hij hk hnm hlo hhi
  go_enter Ybaz.func35, Ybaz.ntmps35
  go_upto_region 1 with fail
  rw [← hw3]
  clear hw3
  go_quiet (first
    | (go_at_call 36; refine Calls.quiet_of_same (kid36 x b a n c m (K m) (F m) (w3.drewN _) cx c1 hm cm.1 cm.2.1))
    | (go_at_call 4; refine Calls.quiet_of (byID4 (F m) j (ids m) idj (w3.drewN _) cm.2.2 cj)))
  by_cases htn : t = n
  · have s1 : cmpI (ids m) idj = -1 := if_pos (HLO.out m (by have := HNM.out; omega))
    subst htn
    go_wp2
    go_ret
    exact ⟨rfl, HB.out.trans ⟨rfl, rfl, rfl, Nat.le_refl _, fun _ _ => rfl⟩⟩
  · have s0 := HHI.out m (by have := HNM.out; omega) hm
    have s1 : cmpI (ids m) idj = 1 := (if_neg (by omega)).trans (if_pos s0)
    have hfd := fun (q0 : Nat) => find59 m t (.pointer (some ⟨w.heap.size, 0, none⟩)) (.pointer (some ⟨w.heap.size + 1, 0, none⟩)) (.pointer (some ⟨w.heap.size + 2, 0, none⟩)) (fun i => cmpI idj (ids i)) (w3.drewN q0) (by omega) (by have := HNM.out; omega)
      (fun i hi => by have := HLO.out i hi; show 0 < cmpI idj (ids i); rw [show cmpI idj (ids i) = 1 from (if_neg (by omega)).trans (if_pos this)]; omega)
      (fun i h1 h2 => by have := HHI.out i h1 (by omega); show cmpI idj (ids i) < 0; rw [show cmpI idj (ids i) = -1 from if_pos this]; omega)
      (fun q i hi => by
        have hki := HK.out i (by omega)
        refine (clos60_36 w.heap.size (w.heap.size + 1) (w.heap.size + 2) qb qo j x b a n c i (K i) (F i) idj (ids i) ((w3.drewN q0).drewN q) b1 b2 b3 c0 cx c1 (by omega) hki.1 hki.2.1 cj hki.2.2).mono ?_
        rintro e w' ⟨rfl, q1, rfl⟩
        exact ⟨rfl, _, drewNC _ _ _⟩)
    have HFD : Hid (∀ q0 : Nat, Calls Ybaz.prog 59 #[.int .i64 m, .func (.func 60) #[] #[.pointer (some ⟨w.heap.size, 0, none⟩), .pointer (some ⟨w.heap.size + 1, 0, none⟩), .pointer (some ⟨w.heap.size + 2, 0, none⟩)]] (w3.drewN q0) fun e w' => e = .returned (.tuple #[.int .i64 t, .bool false]) ∧ ∃ q, w' = (w3.drewN q0).drewN q) := hfd
    clear hfd
    go_wp2_with (first | (go_at_call 59; refine (HFD.out _).mono ?_; rintro e w4 ⟨rfl, q4, rfl⟩) | go_in)
    go_ret
    exact ⟨rfl, (HB.out.trans ⟨rfl, rfl, rfl, Nat.le_refl _, fun _ _ => rfl⟩).trans ⟨rfl, rfl, rfl, Nat.le_refl _, fun _ _ => rfl⟩⟩

set_option maxHeartbeats 1000000 in
/-- before's closure: compare(j, at(k)). -/
theorem clos60_37 (bq bj ba qb qo j x b a n c k f : Nat) (idj idf : Int) (w : World) (hq : w.cell? ⟨bq, 0, none⟩ = some (.pointer (some ⟨qb, qo, none⟩))) (hj : w.cell? ⟨bj, 0, none⟩ = some (.pointer (some ⟨j, 0, none⟩))) (ha : w.cell? ⟨ba, 0, none⟩ = some (.func (.func 37) #[] #[.pointer (some ⟨x, 0, none⟩)])) (hc : w.cell? ⟨qb, qo, none⟩ = some (.func (.func 4) #[] #[]))
    (hx : w.cell? ⟨x, 0, none⟩ = some (.pointer (some ⟨b, 0, none⟩))) (h1 : w.cell? ⟨b, 2, none⟩ = some (.slice (some ⟨a, 0, none⟩) n c)) (hk : k < n) (hka : w.cell? ⟨a, k, none⟩ = some (.pointer (some ⟨f, 0, none⟩))) (hij : w.cell? ⟨j, 6, none⟩ = some (.int .i64 idj)) (hif : w.cell? ⟨f, 6, none⟩ = some (.int .i64 idf)) :
    Calls Ybaz.prog 60 #[.int .i64 k, .pointer (some ⟨bq, 0, none⟩), .pointer (some ⟨bj, 0, none⟩), .pointer (some ⟨ba, 0, none⟩)] w fun e w' => e = .returned (.int .i64 (cmpI idj idf)) ∧ ∃ q, w' = w.drewN q := by
  go_enter Ybaz.func60, Ybaz.ntmps60
  go_upto_region 1 with fail
  go_quiet (first
    | (go_at_call 37; refine Calls.quiet_of_same (job37 x b a n c k f (w.drewN _) hx h1 hk hka))
    | (go_at_call 4; refine Calls.quiet_of (byID4 j f idj idf (w.drewN _) hij hif)))
  go_wp2
  go_ret
  exact ⟨rfl, _, rfl⟩

set_option maxHeartbeats 2000000 in
/-- before: t of the n jobs come before j. -/
theorem before_37 (qb qo j x b a n m c t : Nat) (F : Nat → Nat) (ids : Nat → Int) (idj : Int) (w : World) (hnm : n = m + 1) (hn : n ≤ 1000) (ht : t ≤ n) (hc : w.cell? ⟨qb, qo, none⟩ = some (.func (.func 4) #[] #[]))
    (hx : w.cell? ⟨x, 0, none⟩ = some (.pointer (some ⟨b, 0, none⟩))) (h1 : w.cell? ⟨b, 2, none⟩ = some (.slice (some ⟨a, 0, none⟩) n c)) (hk : ∀ i, i < n → w.cell? ⟨a, i, none⟩ = some (.pointer (some ⟨F i, 0, none⟩)) ∧ w.cell? ⟨F i, 6, none⟩ = some (.int .i64 (ids i))) (hij : w.cell? ⟨j, 6, none⟩ = some (.int .i64 idj))
    (hlo : ∀ i, i < t → ids i < idj) (hhi : ∀ i, t ≤ i → i < n → idj < ids i) :
    Calls Ybaz.prog 35 #[.pointer (some ⟨qb, qo, none⟩), .pointer (some ⟨j, 0, none⟩), .int .i64 n, .func (.func 37) #[] #[.pointer (some ⟨x, 0, none⟩)]] w fun e w' => e = .returned (.int .i64 t) ∧ Below w.heap.size w w' := by
  obtain ⟨w3, hw3⟩ : ∃ w3, w3 = ((w.alloc (.cells #[.pointer (some ⟨qb, qo, none⟩)] 37)).alloc (.cells #[.pointer (some ⟨j, 0, none⟩)] 23)).alloc (.cells #[.func (.func 37) #[] #[.pointer (some ⟨x, 0, none⟩)]] 144) := ⟨_, rfl⟩
  have B3 : Below w.heap.size w w3 := by rw [hw3]; exact (((Below.refl _ _).alloc (Nat.le_refl _) _).alloc (by simp) _).alloc (by simp; omega) _
  have b1 : w3.cell? ⟨w.heap.size, 0, none⟩ = some (.pointer (some ⟨qb, qo, none⟩)) := by
    have h : w3.heap[w.heap.size]? = some (.cells #[.pointer (some ⟨qb, qo, none⟩)] 37) := by rw [hw3, Below.heap_alloc _ _ _ (by simp; omega), Below.heap_alloc _ _ _ (by simp), heap_alloc_new]
    rw [cell_of_row _ _ _ _ _ _ h]; rfl
  have b2 : w3.cell? ⟨w.heap.size + 1, 0, none⟩ = some (.pointer (some ⟨j, 0, none⟩)) := by
    have h : w3.heap[w.heap.size + 1]? = some (.cells #[.pointer (some ⟨j, 0, none⟩)] 23) := by
      rw [hw3, Below.heap_alloc _ _ _ (by simp)]
      have := heap_alloc_new (w.alloc (.cells #[.pointer (some ⟨qb, qo, none⟩)] 37)) (.cells #[.pointer (some ⟨j, 0, none⟩)] 23)
      simpa using this
    rw [cell_of_row _ _ _ _ _ _ h]; rfl
  have b3 : w3.cell? ⟨w.heap.size + 2, 0, none⟩ = some (.func (.func 37) #[] #[.pointer (some ⟨x, 0, none⟩)]) := by
    have h : w3.heap[w.heap.size + 2]? = some (.cells #[.func (.func 37) #[] #[.pointer (some ⟨x, 0, none⟩)]] 144) := by rw [hw3]; exact heap_top3 _ _ _ _
    rw [cell_of_row _ _ _ _ _ _ h]; rfl
  have lift : ∀ y i v, w.cell? ⟨y, i, none⟩ = some v → w3.cell? ⟨y, i, none⟩ = some v := fun y i v h => (B3.cell (p := ⟨y, i, none⟩) (World.block_lt_of_cell? _ _ h)).trans h
  have c0 := lift _ _ _ hc
  have cx := lift _ _ _ hx
  have c1 := lift _ _ _ h1
  have cj := lift _ _ _ hij
  have HK : Hid (∀ i, i < n → w3.cell? ⟨a, i, none⟩ = some (.pointer (some ⟨F i, 0, none⟩)) ∧ w3.cell? ⟨F i, 6, none⟩ = some (.int .i64 (ids i))) := fun i hi => ⟨lift _ _ _ (hk i hi).1, lift _ _ _ (hk i hi).2⟩
  have HB : Hid (Below w.heap.size w w3) := B3
  have hm : m < n := by omega
  have cm := HK.out m hm
  have n1 : (n : Int) - 1 = (m : Int) := by omega
  have n2 : IntKind.i64.wrap (m : Int) = (m : Int) := by rw [IntKind.wrap_i64]; omega
  have HNM : Hid (n = m + 1) := hnm
  have HLO : Hid (∀ i, i < t → ids i < idj) := hlo
  have HHI : Hid (∀ i, t ≤ i → i < n → idj < ids i) := hhi
  clear B3 lift hc hx h1 hij hk hnm hlo hhi
  go_enter Ybaz.func35, Ybaz.ntmps35
  go_upto_region 1 with fail
  rw [← hw3]
  clear hw3
  go_quiet (first
    | (go_at_call 37; refine Calls.quiet_of_same (job37 x b a n c m (F m) (w3.drewN _) cx c1 hm cm.1))
    | (go_at_call 4; refine Calls.quiet_of (byID4 (F m) j (ids m) idj (w3.drewN _) cm.2 cj)))
  by_cases htn : t = n
  · have s1 : cmpI (ids m) idj = -1 := if_pos (HLO.out m (by have := HNM.out; omega))
    subst htn
    go_wp2
    go_ret
    exact ⟨rfl, HB.out.trans ⟨rfl, rfl, rfl, Nat.le_refl _, fun _ _ => rfl⟩⟩
  · have s0 := HHI.out m (by have := HNM.out; omega) hm
    have s1 : cmpI (ids m) idj = 1 := (if_neg (by omega)).trans (if_pos s0)
    have hfd := fun (q0 : Nat) => find59 m t (.pointer (some ⟨w.heap.size, 0, none⟩)) (.pointer (some ⟨w.heap.size + 1, 0, none⟩)) (.pointer (some ⟨w.heap.size + 2, 0, none⟩)) (fun i => cmpI idj (ids i)) (w3.drewN q0) (by omega) (by have := HNM.out; omega)
      (fun i hi => by have := HLO.out i hi; show 0 < cmpI idj (ids i); rw [show cmpI idj (ids i) = 1 from (if_neg (by omega)).trans (if_pos this)]; omega)
      (fun i h1 h2 => by have := HHI.out i h1 (by omega); show cmpI idj (ids i) < 0; rw [show cmpI idj (ids i) = -1 from if_pos this]; omega)
      (fun q i hi => by
        have hki := HK.out i (by omega)
        refine (clos60_37 w.heap.size (w.heap.size + 1) (w.heap.size + 2) qb qo j x b a n c i (F i) idj (ids i) ((w3.drewN q0).drewN q) b1 b2 b3 c0 cx c1 (by omega) hki.1 cj hki.2).mono ?_
        rintro e w' ⟨rfl, q1, rfl⟩
        exact ⟨rfl, _, drewNC _ _ _⟩)
    have HFD : Hid (∀ q0 : Nat, Calls Ybaz.prog 59 #[.int .i64 m, .func (.func 60) #[] #[.pointer (some ⟨w.heap.size, 0, none⟩), .pointer (some ⟨w.heap.size + 1, 0, none⟩), .pointer (some ⟨w.heap.size + 2, 0, none⟩)]] (w3.drewN q0) fun e w' => e = .returned (.tuple #[.int .i64 t, .bool false]) ∧ ∃ q, w' = (w3.drewN q0).drewN q) := hfd
    clear hfd
    go_wp2_with (first | (go_at_call 59; refine (HFD.out _).mono ?_; rintro e w4 ⟨rfl, q4, rfl⟩) | go_in)
    go_ret
    exact ⟨rfl, (HB.out.trans ⟨rfl, rfl, rfl, Nat.le_refl _, fun _ _ => rfl⟩).trans ⟨rfl, rfl, rfl, Nat.le_refl _, fun _ _ => rfl⟩⟩

end Go.Proofs.YbulkdxqmGreatFmt
