/- LawS6213CWhole: what stands round after round: the submitter, the jobs that wait in it, the sums. -/
import Derived.Test.YbulkdxqmGreatFmtEnq
import Derived.Test.YbulkdxqmGreatFmtFlat
namespace Go.Proofs.YbulkdxqmGreatFmt
set_option linter.unusedVariables false
open Go.RowKit

theorem Sub.next {w w' : World} {X : Nat → Nat → Prop} {sb wb spb : Nat} {n : Int} {R1 R2 W : Nat → Prop} {xs ys : List Nat} {ws : List (Int × Int)} {id slots : Nat → Int} (h : Sub w sb wb spb n R1 R2 W xs ys ws id slots) (hc : Chg X w w')
    (hX : ∀ x t, (R1 x ∨ R2 x ∨ W x ∨ x = sb ∨ x = wb ∨ x = spb ∨ x ∈ xs) → ¬ X x t) : Sub w' sb wb spb n R1 R2 W xs ys ws id slots := by
  refine ⟨h.q1.next hc (fun t _ _ => hX sb t (by simp)) (fun x t hx => hX x t (Or.inl hx)), h.q2.next hc (fun t _ _ => hX wb t (by simp)) (fun x t hx => hX x t (Or.inr (Or.inl hx))), h.wt.next hc (hX sb 26 (by simp)) (fun x t hx => hX x t (Or.inr (Or.inr (Or.inl hx)))), hc.keep h.c25 (hX sb 25 (by simp)), ?_, h.same, fun k hk => ?_, h.d1, h.d2, fun x hx => ?_, h.ne, h.asc, h.cnt, h.big, h.nn⟩
  · obtain ⟨a, ha⟩ := h.sp
    exact ⟨a, hc.keep ha (hX spb 0 (by simp))⟩
  · obtain ⟨k1, k2⟩ := h.job k hk
    exact ⟨k1.next' hc (fun t _ => hX k t (by simp [hk])), k2⟩
  · obtain ⟨a1, a2, a3, a4⟩ := h.dw x hx
    exact ⟨a1, a2, a3, Nat.lt_of_lt_of_le a4 hc.size⟩

theorem Sub.congr {w : World} {sb wb spb : Nat} {n : Int} {R1 R2 W : Nat → Prop} {xs ys : List Nat} {ws : List (Int × Int)} {id slots id' slots' : Nat → Int} (h : Sub w sb wb spb n R1 R2 W xs ys ws id slots) (hE : ∀ k ∈ xs, id' k = id k ∧ slots' k = slots k) : Sub w sb wb spb n R1 R2 W xs ys ws id' slots' := by
  have q1 := h.q1
  have q2 := h.q2
  have so1 : xs.Pairwise (fun a b => id' a < id' b) := q1.so.imp_of_mem (fun {a b} ha hb hab => by rw [(hE a ha).1, (hE b hb).1]; exact hab)
  have so2 : ys.Pairwise (fun a b => id' a < id' b) := q2.so.imp_of_mem (fun {a b} ha hb hab => by rw [(hE a ((h.same a).2 ha)).1, (hE b ((h.same b).2 hb)).1]; exact hab)
  refine ⟨⟨q1.pl, q1.c0, q1.c1, q1.c2, q1.c4, q1.c5, q1.c6, q1.c7, so1, q1.lt, q1.st⟩, ⟨q2.pl, q2.c0, q2.c1, q2.c2, q2.c4, q2.c5, q2.c6, q2.c7, so2, q2.lt, q2.st⟩, h.wt, h.c25, h.sp, h.same, fun k hk => ?_, h.d1, h.d2, h.dw, h.ne, h.asc, h.cnt, h.big, h.nn⟩
  rw [(hE k hk).1, (hE k hk).2]
  exact h.job k hk

/-- What stands; T: the blocks that are the submitter's, the negotiator's, the jobs'. -/
structure Core (w : World) (n₀ sb wb spb nb : Nat) (T : Nat → Prop) (P : List Nat) (id slots : Nat → Int) (sum want : Int) : Prop where
  sub : ∃ R1 R2 W xs ys ws, Sub w sb wb spb P.length R1 R2 W xs ys ws id slots ∧ (∀ a, a ∈ xs ↔ a ∈ P) ∧ Free sb wb spb R1 R2 W nb ∧ Tally ws (P.map slots) ∧ (∀ x, R1 x ∨ R2 x ∨ W x → T x)
  base : ∀ x, x = sb ∨ x = wb ∨ x = spb ∨ x = nb ∨ x ∈ P → T x
  lo : ∀ x, T x → n₀ ≤ x ∧ x < w.heap.size
  nbP : nb ∉ P
  nd : P.Nodup
  pl : Plain w nb 94
  c3 : w.cell? ⟨sb, 3, none⟩ = some (.int .i64 sum)
  c24 : w.cell? ⟨nb, 24, none⟩ = some (.int .i64 want)
  st : ∀ k ∈ P, w.cell? ⟨k, 3, none⟩ = some (.int .u8 1)
  c4 : w.cell? ⟨sb, 4, none⟩ = some (.int .i64 0)
  c27 : w.cell? ⟨sb, 27, none⟩ = some (.slice none 0 0)

theorem Core.next {w w' : World} {X : Nat → Nat → Prop} {n₀ sb wb spb nb : Nat} {T : Nat → Prop} {P : List Nat} {id slots : Nat → Int} {sum want : Int} (h : Core w n₀ sb wb spb nb T P id slots sum want) (hc : Chg X w w') (hX : ∀ x t, T x → ¬ X x t) : Core w' n₀ sb wb spb nb T P id slots sum want := by
  have hb := h.base
  refine ⟨?_, h.base, fun x hx => ⟨(h.lo x hx).1, Nat.lt_of_lt_of_le (h.lo x hx).2 hc.size⟩, h.nbP, h.nd, hc.pln _ _ h.pl, hc.keep h.c3 (hX _ _ (hb sb (by simp))), hc.keep h.c24 (hX _ _ (hb nb (by simp))), fun k hk => hc.keep (h.st k hk) (hX _ _ (hb k (by simp [hk]))), hc.keep h.c4 (hX _ _ (hb sb (by simp))), hc.keep h.c27 (hX _ _ (hb sb (by simp)))⟩
  obtain ⟨R1, R2, W, xs, ys, ws, s1, s2, s3, s4, s5⟩ := h.sub
  refine ⟨R1, R2, W, xs, ys, ws, s1.next hc (fun x t hx => hX x t ?_), s2, s3, s4, s5⟩
  rcases hx with h | h | h | h | h | h | h
  · exact s5 x (Or.inl h)
  · exact s5 x (Or.inr (Or.inl h))
  · exact s5 x (Or.inr (Or.inr h))
  · exact hb x (Or.inl h)
  · exact hb x (Or.inr (Or.inl h))
  · exact hb x (Or.inr (Or.inr (Or.inl h)))
  · exact hb x (by simp [(s2 x).1 h])

theorem Core.congr {w : World} {n₀ sb wb spb nb : Nat} {T : Nat → Prop} {P : List Nat} {id slots id' slots' : Nat → Int} {sum want : Int} (h : Core w n₀ sb wb spb nb T P id slots sum want) (hE : ∀ k ∈ P, id' k = id k ∧ slots' k = slots k) : Core w n₀ sb wb spb nb T P id' slots' sum want := by
  refine ⟨?_, h.base, h.lo, h.nbP, h.nd, h.pl, h.c3, h.c24, h.st, h.c4, h.c27⟩
  obtain ⟨R1, R2, W, xs, ys, ws, s1, s2, s3, s4, s5⟩ := h.sub
  refine ⟨R1, R2, W, xs, ys, ws, s1.congr (fun k hk => hE k ((s2 k).1 hk)), s2, s3, ?_, s5⟩
  rw [List.map_congr_left (fun k hk => (hE k hk).2)]; exact s4

theorem Core.wait {w : World} {n₀ sb wb spb nb : Nat} {T : Nat → Prop} {P : List Nat} {id slots : Nat → Int} {sum want : Int} (h : Core w n₀ sb wb spb nb T P id slots sum want) (j : Nat) (hj : JobAt w j (id j) (slots j)) (hjT : ¬ T j) (hjn : n₀ ≤ j) (hne : ∀ k ∈ P, id k ≠ id j) (hP : P.length < 99999)
    (hj3 : ∃ u, w.cell? ⟨j, 3, none⟩ = some u) (hj2 : w.cell? ⟨j, 2, none⟩ = some (.pointer none)) :
    Calls Ybaz.prog 6 #[.pointer (some ⟨nb, 0, none⟩), .pointer (some ⟨sb, 0, none⟩), .pointer (some ⟨j, 0, none⟩)] w fun e w' => e = .returned (.tuple #[]) ∧ ∃ T', Core w' n₀ sb wb spb nb T' (P ++ [j]) id slots (wrap64 (sum + slots j)) (wrap64 (want + 1)) ∧
      Chg (fun x _ => T x ∨ x = j) w w' ∧ (∀ x, x < w.heap.size → T' x → T x ∨ x = j) ∧ (∃ p, w'.cell? ⟨j, 0, none⟩ = some (ptr p)) ∧ (∃ p, w'.cell? ⟨j, 1, none⟩ = some (ptr p)) ∧ w'.cell? ⟨j, 2, none⟩ = some (.pointer none) ∧ w'.cell? ⟨j, 3, none⟩ = some (.int .u8 1) := by
  obtain ⟨R1, R2, W, xs, ys, ws, s1, s2, s3, s4, s5⟩ := h.sub
  have hb := h.base
  have hjP : j ∉ P := fun e => hjT (hb j (by simp [e]))
  have hjf : Free sb wb spb R1 R2 W j := ⟨fun e => hjT (s5 j (Or.inl e)), fun e => hjT (s5 j (Or.inr (Or.inl e))), fun e => hjT (s5 j (Or.inr (Or.inr e))), fun e => hjT (hb j (Or.inl e)), fun e => hjT (hb j (Or.inr (Or.inl e))), fun e => hjT (hb j (Or.inr (Or.inr (Or.inl e))))⟩
  have hnj : nb ≠ j := fun e => hjT (hb j (by simp [e]))
  refine (waitIn6 (nb := nb) j sum want s1 (by omega) hj hjf (fun k hk => hne k ((s2 k).1 hk)) s3 ⟨hnj, fun e => h.nbP ((s2 nb).1 e)⟩ h.pl h.c3 h.c24 hj3).mono ?_
  rintro e w' ⟨rfl, R1', R2', W', xs', ys', ws', t1, t2, t3, t4, t5, t6, t7, t8, t9, t10⟩
  have hXW : ∀ x t, XW sb wb nb R1 R2 W j xs x t → T x ∨ x = j := fun x t hx => by
    rcases hx with hx | hx | hx | hx
    · rcases hx with hx | hx | hx | hx | hx | hx
      · exact Or.inl (s5 x (Or.inl hx))
      · exact Or.inl (s5 x (Or.inr (Or.inl hx)))
      · exact Or.inl (s5 x (Or.inr (Or.inr hx)))
      · exact Or.inl (hb x (Or.inl hx.1))
      · exact Or.inl (hb x (Or.inr (Or.inl hx.1)))
      · rcases hx.1 with hx | hx
        · exact Or.inr hx
        · exact Or.inl (hb x (by simp [(s2 x).1 hx]))
    · exact Or.inl (hb x (Or.inl hx.1))
    · exact Or.inl (hb x (by simp [hx.1]))
    · exact Or.inr hx.1
  have hlt : ∀ x, (x = sb ∨ x = wb ∨ x = spb ∨ x = nb ∨ x ∈ P ++ [j]) → n₀ ≤ x ∧ x < w.heap.size := fun x hx => by
    by_cases e : x = j
    · subst e; exact ⟨hjn, hj.pl.lt⟩
    · refine h.lo x (hb x ?_)
      rcases hx with hx | hx | hx | hx | hx
      · exact Or.inl hx
      · exact Or.inr (Or.inl hx)
      · exact Or.inr (Or.inr (Or.inl hx))
      · exact Or.inr (Or.inr (Or.inr (Or.inl hx)))
      · refine Or.inr (Or.inr (Or.inr (Or.inr ?_)))
        rcases List.mem_append.1 hx with hx | hx
        · exact hx
        · exact absurd (by simpa using hx) e
  have hsz := t9.size
  have hR : ∀ x, R1' x ∨ R2' x ∨ W' x → x < w'.heap.size := fun x hx => by
    rcases hx with hx | hx | hx
    · exact t1.q1.lt x hx
    · exact t1.q2.lt x hx
    · exact (t1.dw x hx).2.2.2
  have hR0 : ∀ x, R1' x ∨ R2' x ∨ W' x → x < w.heap.size → T x := fun x hx hl => by
    obtain ⟨a1, a2, a3⟩ := t10 x hl
    rcases hx with hx | hx | hx
    · exact s5 x (Or.inl (a1 hx))
    · exact s5 x (Or.inr (Or.inl (a2 hx)))
    · exact s5 x (Or.inr (Or.inr (a3 hx)))
  have hnT : ∀ x t, x ≠ j → (∀ y, T y → y ≠ x) → ¬ XW sb wb nb R1 R2 W j xs x t := fun x t h1 h2 hx => by
    rcases hXW x t hx with hx | hx
    · exact h2 x hx rfl
    · exact h1 hx
  have nj : ∀ t, t = 2 → ¬ XW sb wb nb R1 R2 W j xs j t := fun t ht hx => by
    obtain ⟨b1, b2, b3, b4, b5, b6⟩ := hjf
    rcases hx with hx | hx | hx | hx
    · rcases hx with hx | hx | hx | hx | hx | hx
      · exact b1 hx
      · exact b2 hx
      · exact b3 hx
      · exact b4 hx.1
      · exact b5 hx.1
      · have := hx.2; omega
    · exact b4 hx.1
    · exact hnj hx.1.symm
    · have := hx.2; omega
  have nsb : ∀ t, t = 4 ∨ t = 27 → ¬ XW sb wb nb R1 R2 W j xs sb t := fun t ht hx => by
    rcases hx with hx | hx | hx | hx
    · rcases hx with hx | hx | hx | hx | hx | hx
      · exact (s1.d1 sb hx).2.2.1 rfl
      · exact (s1.d2 sb hx).2.1 rfl
      · exact (s1.dw sb hx).1 rfl
      · have := hx.2; omega
      · exact s1.ne.1 hx.1
      · have := hx.2; omega
    · have := hx.2; omega
    · exact s3.2.2.2.1 hx.1.symm
    · exact hjf.2.2.2.1 hx.1.symm
  have nP : ∀ k ∈ P, ¬ XW sb wb nb R1 R2 W j xs k 3 := fun k hk hx => by
    obtain ⟨_, b1, b2, b3, b4, b5, b6⟩ := s1.job k ((s2 k).2 hk)
    rcases hx with hx | hx | hx | hx
    · rcases hx with hx | hx | hx | hx | hx | hx
      · exact b1 hx
      · exact b2 hx
      · exact b3 hx
      · exact b4 hx.1
      · exact b5 hx.1
      · have := hx.2; omega
    · exact b4 hx.1
    · exact h.nbP (hx.1 ▸ hk)
    · exact hjP (hx.1 ▸ hk)
  have hnbf : Free sb wb spb R1' R2' W' nb := by
    obtain ⟨a1, a2, a3⟩ := t10 nb h.pl.lt
    exact ⟨fun e => s3.1 (a1 e), fun e => s3.2.1 (a2 e), fun e => s3.2.2.1 (a3 e), s3.2.2.2⟩
  refine ⟨rfl, fun x => (R1' x ∨ R2' x ∨ W' x) ∨ (x = sb ∨ x = wb ∨ x = spb ∨ x = nb ∨ x ∈ P ++ [j]), ⟨⟨R1', R2', W', xs', ys', ws', ?_, fun a => ?_, hnbf, ?_, fun x hx => Or.inl hx⟩, fun x hx => Or.inr hx, fun x hx => ?_, ?_, ?_, t9.pln _ _ h.pl, t4, t5, fun k hk => ?_, t9.keep h.c4 (nsb 4 (Or.inl rfl)), t9.keep h.c27 (nsb 27 (Or.inr rfl))⟩, t9.mono (fun x t _ hx => hXW x t hx), fun x hx hT => ?_, t7, t8, t9.keep hj2 (nj 2 rfl), t6⟩
  · have e : ((P ++ [j]).length : Int) = P.length + 1 := by simp
    rw [e]; exact t1
  · rw [t3 a, s2 a, List.mem_append]; simp; exact Or.comm
  · rw [List.map_append]; exact s4.step s1.asc t2
  · rcases hx with hx | hx
    · refine ⟨?_, hR x hx⟩
      rcases Nat.lt_or_ge x w.heap.size with hl | hl
      · exact (h.lo x (hR0 x hx hl)).1
      · exact Nat.le_trans hjn (Nat.le_trans (Nat.le_of_lt hj.pl.lt) hl)
    · exact ⟨(hlt x hx).1, Nat.lt_of_lt_of_le (hlt x hx).2 hsz⟩
  · intro hm
    rcases List.mem_append.1 hm with hm | hm
    · exact h.nbP hm
    · exact hnj (by simpa using hm)
  · rw [List.nodup_append]
    exact ⟨h.nd, by simp, fun a ha b hb' => by simp at hb'; subst hb'; exact fun e => hjP (e ▸ ha)⟩
  · rcases List.mem_append.1 hk with hk | hk
    · exact t9.keep (h.st k hk) (nP k hk)
    · obtain rfl : k = j := by simpa using hk
      exact t6
  · rcases hT with hT | hT
    · exact Or.inl (hR0 x hT hx)
    · by_cases e : x = j
      · exact Or.inr e
      · refine Or.inl (hb x ?_)
        rcases hT with hx | hx | hx | hx | hx
        · exact Or.inl hx
        · exact Or.inr (Or.inl hx)
        · exact Or.inr (Or.inr (Or.inl hx))
        · exact Or.inr (Or.inr (Or.inr (Or.inl hx)))
        · refine Or.inr (Or.inr (Or.inr (Or.inr ?_)))
          rcases List.mem_append.1 hx with hx | hx
          · exact hx
          · exact absurd (by simpa using hx) e
end Go.Proofs.YbulkdxqmGreatFmt
