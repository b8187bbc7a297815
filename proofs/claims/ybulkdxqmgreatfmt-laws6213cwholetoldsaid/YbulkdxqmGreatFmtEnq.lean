/- LawS6213CWhole: enqueue and waitIn. -/
import Derived.Test.YbulkdxqmGreatFmtQueue
import Derived.Test.YbulkdxqmGreatFmtCount
namespace Go.Proofs.YbulkdxqmGreatFmt
set_option linter.unusedVariables false
set_option linter.unusedSimpArgs false
open Go.RowKit

theorem JobAt.next' {w w' : World} {X : Nat → Nat → Prop} {j : Nat} {id slots : Int} (h : JobAt w j id slots) (hc : Chg X w w') (hX : ∀ t, 4 ≤ t → ¬ X j t) : JobAt w' j id slots :=
  ⟨hc.pln _ _ h.pl, fun t ht => hc.has _ _ (h.lv t ht), hc.keep h.c4 (hX _ (by omega)), hc.keep h.c6 (hX _ (by omega)), hc.keep h.c8 (hX _ (by omega)), hc.keep h.c18 (hX _ (by omega))⟩

/-- Apart from all that is a submitter's. -/
def Free (sb wb spb : Nat) (R1 R2 W : Nat → Prop) (x : Nat) : Prop := ¬ R1 x ∧ ¬ R2 x ∧ ¬ W x ∧ x ≠ sb ∧ x ≠ wb ∧ x ≠ spb

/-- A submitter with its two queues and its widths. -/
structure Sub (w : World) (sb wb spb : Nat) (n : Int) (R1 R2 W : Nat → Prop) (xs ys : List Nat) (ws : List (Int × Int)) (id slots : Nat → Int) : Prop where
  q1 : Queue w sb 17 0 spb n R1 xs id
  q2 : Queue w wb 0 1 spb n R2 ys id
  wt : WAt w sb 26 ws W
  c25 : w.cell? ⟨sb, 25, none⟩ = some (.pointer (some ⟨wb, 0, none⟩))
  sp : ∃ a, w.cell? ⟨spb, 0, none⟩ = some (.slice a 0 0)
  same : ∀ a, a ∈ xs ↔ a ∈ ys
  job : ∀ k ∈ xs, JobAt w k (id k) (slots k) ∧ Free sb wb spb R1 R2 W k
  d1 : ∀ x, R1 x → ¬ R2 x ∧ ¬ W x ∧ x ≠ sb ∧ x ≠ wb ∧ x ≠ spb
  d2 : ∀ x, R2 x → ¬ W x ∧ x ≠ sb ∧ x ≠ wb ∧ x ≠ spb
  dw : ∀ x, W x → x ≠ sb ∧ x ≠ wb ∧ x ≠ spb ∧ x < w.heap.size
  ne : sb ≠ wb ∧ sb ≠ spb ∧ wb ≠ spb
  asc : ws.Pairwise (fun a b => a.1 < b.1)
  cnt : ∀ p ∈ ws, 0 < p.2 ∧ p.2 ≤ n
  big : (ws.length : Int) ≤ n
  nn : 0 ≤ n ∧ n ≤ 100000

/-- What enqueue turns. -/
def XE (sb wb : Nat) (R1 R2 W : Nat → Prop) (j : Nat) (xs : List Nat) (x t : Nat) : Prop := R1 x ∨ R2 x ∨ W x ∨ (x = sb ∧ (t = 20 ∨ t = 21 ∨ t = 23 ∨ t = 26)) ∨ (x = wb ∧ (t = 3 ∨ t = 4 ∨ t = 6)) ∨ ((x = j ∨ x ∈ xs) ∧ t < 2)

set_option maxHeartbeats 4000000 in
set_option maxRecDepth 100000 in
theorem enqueue11 {w : World} {sb wb spb : Nat} {n : Int} {R1 R2 W : Nat → Prop} {xs ys : List Nat} {ws : List (Int × Int)} {id slots : Nat → Int} (j : Nat) (h : Sub w sb wb spb n R1 R2 W xs ys ws id slots) (hj : JobAt w j (id j) (slots j)) (hjf : Free sb wb spb R1 R2 W j) (hne : ∀ k ∈ xs, id k ≠ id j) :
    Calls Ybaz.prog 11 #[.pointer (some ⟨sb, 0, none⟩), .pointer (some ⟨j, 0, none⟩)] w fun e w' => e = .returned (.tuple #[]) ∧ ∃ R1' R2' W' xs' ys' ws', Queue w' sb 17 0 spb (n + 1) R1' xs' id ∧ Queue w' wb 0 1 spb (n + 1) R2' ys' id ∧ WAt w' sb 26 ws' W' ∧ Counted ws ws' (slots j) ∧ (∀ a, a ∈ xs' ↔ a = j ∨ a ∈ xs) ∧ (∀ a, a ∈ ys' ↔ a = j ∨ a ∈ ys) ∧
      Chg (XE sb wb R1 R2 W j xs) w w' ∧ (∀ x, x < w.heap.size → (R1' x → R1 x) ∧ (R2' x → R2 x) ∧ (W' x → W x)) ∧ (∀ x, (R1' x → ¬ R2' x ∧ ¬ W' x) ∧ (R2' x → ¬ W' x)) ∧ (∀ x, W' x → x < w'.heap.size) ∧ (∃ p, w'.cell? ⟨j, 0, none⟩ = some (ptr p)) ∧ ∃ p, w'.cell? ⟨j, 1, none⟩ = some (ptr p) := by
  obtain ⟨f1, f2, f3, f4, f5, f6⟩ := hjf
  obtain ⟨e1, e2, e3⟩ := h.ne
  have hnR1 : ∀ x, x = sb ∨ x = wb ∨ x = spb → ¬ R1 x ∧ ¬ R2 x ∧ ¬ W x := fun x hx => ⟨fun hr => by obtain ⟨_, _, a, b, c⟩ := h.d1 x hr; rcases hx with hx | hx | hx; exact a hx; exact b hx; exact c hx, fun hr => by obtain ⟨_, a, b, c⟩ := h.d2 x hr; rcases hx with hx | hx | hx; exact a hx; exact b hx; exact c hx, fun hr => by obtain ⟨a, b, c, _⟩ := h.dw x hr; rcases hx with hx | hx | hx; exact a hx; exact b hx; exact c hx⟩
  have H : Hid (Sub w sb wb spb n R1 R2 W xs ys ws id slots) := h
  have HJ : Hid (JobAt w j (id j) (slots j)) := hj
  have HN : Hid (∀ x, x = sb ∨ x = wb ∨ x = spb → ¬ R1 x ∧ ¬ R2 x ∧ ¬ W x) := hnR1
  have HNE : Hid (∀ k ∈ xs, id k ≠ id j) := hne
  obtain ⟨spa, hspa⟩ := h.sp
  have hi1 := insertQ (slots := slots) j h.q1 hspa (fun e => e2 e.symm) h.nn.1 (by have := h.nn.2; omega) (by omega) (hnR1 sb (Or.inl rfl)).1 hj f1 f4 (fun k hk => by obtain ⟨a, b1, b2, b3, b4, b5, b6⟩ := h.job k hk; exact ⟨b1, b4, a⟩) hne
  have HI1 : Hid (Calls Ybaz.prog 15 #[.pointer (some ⟨sb, 17, none⟩), .pointer (some ⟨j, 0, none⟩)] w fun e w' => e = .returned (.tuple #[]) ∧ ∃ R' ys, Queue w' sb 17 0 spb (n + 1) R' ys id ∧ (∀ a, a ∈ ys ↔ a = j ∨ a ∈ xs) ∧ Chg (XQ R1 sb 17 0 j xs) w w' ∧ (∀ x, x < w.heap.size → (R' x ↔ R1 x)) ∧ ∃ p, w'.cell? ⟨j, 0, none⟩ = some (ptr p)) := hi1
  clear hi1 h hj hnR1 hne
  go_enter Ybaz.func11, Ybaz.ntmps11
  go_upto_region 1 with (go_at_call 15; fail)
  refine HI1.out.mono ?_
  rintro e w1 ⟨rfl, R1', xs', q1', m1, c1, r1, p1⟩
  have HQ1 : Hid (Queue w1 sb 17 0 spb (n + 1) R1' xs' id) := q1'
  have HM1 : Hid (∀ a, a ∈ xs' ↔ a = j ∨ a ∈ xs) := m1
  have HC1 : Hid (Chg (XQ R1 sb 17 0 j xs) w w1) := c1
  have HR1 : Hid (∀ x, x < w.heap.size → (R1' x ↔ R1 x)) := r1
  have HP1 : Hid (∃ p, w1.cell? ⟨j, 0, none⟩ = some (ptr p)) := p1
  -- what XQ leaves alone
  have nj : ∀ k, k ∈ xs → Free sb wb spb R1 R2 W k := fun k hk => (H.out.job k hk).2
  have x1 : ∀ x t, x ≠ sb → ¬ R1 x → (x ≠ j ∧ x ∉ xs) ∨ t ≠ 0 → ¬ XQ R1 sb 17 0 j xs x t := fun x t a b c e => by
    rcases e with e | e | e
    · exact b e
    · exact a e.1
    · rcases c with c | c
      · rcases e.1 with e | e
        · exact c.1 e
        · exact c.2 e
      · exact c e.2
  have nx : ∀ x, R1 x ∨ R2 x ∨ W x ∨ x = sb ∨ x = wb ∨ x = spb → x ≠ j ∧ x ∉ xs := fun x hx => by
    refine ⟨fun e => ?_, fun e => ?_⟩
    · subst e
      rcases hx with h | h | h | h | h | h
      · exact f1 h
      · exact f2 h
      · exact f3 h
      · exact f4 h
      · exact f5 h
      · exact f6 h
    · obtain ⟨b1, b2, b3, b4, b5, b6⟩ := nj x e
      rcases hx with h | h | h | h | h | h
      · exact b1 h
      · exact b2 h
      · exact b3 h
      · exact b4 h
      · exact b5 h
      · exact b6 h
  have q2w : Queue w1 wb 0 1 spb n R2 ys id := H.out.q2.next c1 (fun t _ _ => x1 wb t (fun e => e1 e.symm) (HN.out wb (Or.inr (Or.inl rfl))).1 (Or.inl (nx wb (by simp)))) (fun x t hx => x1 x t (H.out.d2 x hx).2.1 (fun hr => (H.out.d1 x hr).1 hx) (Or.inl (nx x (Or.inr (Or.inl hx)))))
  have j1 : JobAt w1 j (id j) (slots j) := HJ.out.next' c1 (fun t ht => x1 j t f4 f1 (Or.inr (by omega)))
  have sp1 := c1.keep hspa (x1 spb 0 (fun e => e2 e.symm) (HN.out spb (by simp)).1 (Or.inl (nx spb (by simp))))
  have s25 : w1.cell? ⟨sb, 25, none⟩ = some (.pointer (some ⟨wb, 0, none⟩)) := c1.keep H.out.c25 (fun e => by
    rcases e with e | e | e
    · exact (HN.out sb (Or.inl rfl)).1 e
    · have := e.2; omega
    · have := e.2; omega)
  have hi2 := insertQ (slots := slots) j q2w sp1 (fun e => e3 e.symm) H.out.nn.1 (by have := H.out.nn.2; omega) (by omega) (HN.out wb (Or.inr (Or.inl rfl))).2.1 j1 f2 f5 (fun k hk => by
    have hk' := (H.out.same k).2 hk
    obtain ⟨a, b1, b2, b3, b4, b5, b6⟩ := H.out.job k hk'
    exact ⟨b2, b5, a.next' c1 (fun t ht => x1 k t b4 b1 (Or.inr (by omega)))⟩) (fun k hk => HNE.out k ((H.out.same k).2 hk))
  have HI2 : Hid (Calls Ybaz.prog 15 #[.pointer (some ⟨wb, 0, none⟩), .pointer (some ⟨j, 0, none⟩)] w1 fun e w' => e = .returned (.tuple #[]) ∧ ∃ R' zs, Queue w' wb 0 1 spb (n + 1) R' zs id ∧ (∀ a, a ∈ zs ↔ a = j ∨ a ∈ ys) ∧ Chg (XQ R2 wb 0 1 j ys) w1 w' ∧ (∀ x, x < w1.heap.size → (R' x ↔ R2 x)) ∧ ∃ p, w'.cell? ⟨j, 1, none⟩ = some (ptr p)) := hi2
  have HJ1 : Hid (JobAt w1 j (id j) (slots j)) := j1
  have HX1 : Hid (∀ x t, x ≠ sb → ¬ R1 x → (x ≠ j ∧ x ∉ xs) ∨ t ≠ 0 → ¬ XQ R1 sb 17 0 j xs x t) := x1
  have HNX : Hid (∀ x, R1 x ∨ R2 x ∨ W x ∨ x = sb ∨ x = wb ∨ x = spb → x ≠ j ∧ x ∉ xs) := nx
  clear hi2 q2w sp1 j1 q1' m1 c1 r1 p1 x1 nx nj
  go_upto_region 2 with (go_at_call 15; fail)
  refine HI2.out.mono ?_
  rintro e w2 ⟨rfl, R2', ys', q2', m2, c2, r2, p2⟩
  have HQ2 : Hid (Queue w2 wb 0 1 spb (n + 1) R2' ys' id) := q2'
  have HM2 : Hid (∀ a, a ∈ ys' ↔ a = j ∨ a ∈ ys) := m2
  have HC2 : Hid (Chg (XQ R2 wb 0 1 j ys) w1 w2) := c2
  have HR2 : Hid (∀ x, x < w1.heap.size → (R2' x ↔ R2 x)) := r2
  have HP2 : Hid (∃ p, w2.cell? ⟨j, 1, none⟩ = some (ptr p)) := p2
  have x2 : ∀ x t, x ≠ wb → ¬ R2 x → (x ≠ j ∧ x ∉ xs) ∨ t ≠ 1 → ¬ XQ R2 wb 0 1 j ys x t := fun x t a b c e => by
    rcases e with e | e | e
    · exact b e
    · exact a e.1
    · rcases c with c | c
      · rcases e.1 with e | e
        · exact c.1 e
        · exact c.2 ((H.out.same x).2 e)
      · exact c e.2
  have HX2 : Hid (∀ x t, x ≠ wb → ¬ R2 x → (x ≠ j ∧ x ∉ xs) ∨ t ≠ 1 → ¬ XQ R2 wb 0 1 j ys x t) := x2
  -- the first queue and the widths at w2
  have r1n : ∀ x, R1' x → ¬ R2 x ∧ ¬ W x ∧ x ≠ sb ∧ x ≠ wb ∧ x ≠ spb ∧ x ≠ j ∧ x ∉ xs := fun x hx => by
    rcases Nat.lt_or_ge x w.heap.size with hl | hl
    · have hx1 := (HR1.out x hl).1 hx
      obtain ⟨a1, a2, a3, a4, a5⟩ := H.out.d1 x hx1
      obtain ⟨b1, b2⟩ := HNX.out x (Or.inl hx1)
      exact ⟨a1, a2, a3, a4, a5, b1, b2⟩
    · have g1 := H.out.q2.lt x
      have g2 := fun hw => (H.out.dw x hw).2.2.2
      have g3 : sb < w.heap.size := World.block_lt_of_cell? _ _ H.out.c25
      have g4 : wb < w.heap.size := World.block_lt_of_cell? _ _ H.out.q2.c0
      have g5 : spb < w.heap.size := World.block_lt_of_cell? _ _ H.out.sp.choose_spec
      have g6 := HJ.out.pl.lt
      refine ⟨fun hr => by have := g1 hr; omega, fun hr => by have := g2 hr; omega, by omega, by omega, by omega, by omega, fun hm => by have := (H.out.job x hm).1.pl.lt; omega⟩
  have HR1N : Hid (∀ x, R1' x → ¬ R2 x ∧ ¬ W x ∧ x ≠ sb ∧ x ≠ wb ∧ x ≠ spb ∧ x ≠ j ∧ x ∉ xs) := r1n
  have HQ12 : Hid (Queue w2 sb 17 0 spb (n + 1) R1' xs' id) := HQ1.out.next c2 (fun t _ _ => x2 sb t e1 (HN.out sb (Or.inl rfl)).2.1 (Or.inl (HNX.out sb (by simp)))) (fun x t hx => by
    obtain ⟨a1, a2, a3, a4, a5, a6, a7⟩ := r1n x hx
    exact x2 x t a4 a1 (Or.inl ⟨a6, a7⟩))
  have wt1 : WAt w1 sb 26 ws W := H.out.wt.next HC1.out (fun e => by
    rcases e with e | e | e
    · exact (HN.out sb (Or.inl rfl)).1 e
    · have := e.2; omega
    · have := e.2; omega) (fun x t hx => HX1.out x t (H.out.dw x hx).1 (fun hr => (H.out.d1 x hr).2.1 hx) (Or.inl (HNX.out x (Or.inr (Or.inr (Or.inl hx))))))
  have wt2 : WAt w2 sb 26 ws W := wt1.next c2 (x2 sb 26 e1 (HN.out sb (Or.inl rfl)).2.1 (Or.inl (HNX.out sb (by simp)))) (fun x t hx => x2 x t (H.out.dw x hx).2.1 (fun hr => (H.out.d2 x hr).1 hx) (Or.inl (HNX.out x (Or.inr (Or.inr (Or.inl hx))))))
  have j2 : JobAt w2 j (id j) (slots j) := HJ1.out.next' c2 (fun t ht => x2 j t f5 f2 (Or.inr (by omega)))
  have hcnt := count16 sb 26 ws W (slots j) w2.drew (wt2.next ((Chg.refl S0 w2).drew) (fun e => e) (fun _ _ _ e => e)) (by obtain ⟨tp, hp⟩ := HQ12.out.pl; exact ⟨tp, ((Chg.refl S0 w2).drew).pln _ _ hp⟩) (HN.out sb (Or.inl rfl)).2.2 H.out.asc (by have := H.out.big; have := H.out.nn; omega) (fun p hp => by have h1 := H.out.cnt p hp; have := H.out.nn; exact ⟨h1.1, by omega⟩)
  have HCNT : Hid (Calls Ybaz.prog 16 #[.pointer (some ⟨sb, 26, none⟩), .int .i64 (slots j), .int .i64 1] w2.drew fun e w' => e = .returned (.tuple #[]) ∧ ∃ ws' W', WAt w' sb 26 ws' W' ∧ Counted ws ws' (slots j) ∧ Chg (fun x t => W x ∨ (x = sb ∧ t = 26)) w2.drew w' ∧ ∀ x, x < w2.drew.heap.size → W' x → W x) := hcnt
  have j8 := j2.c8
  clear hcnt wt1 wt2 j2 q2' m2 c2 r2 p2 x2 r1n s25
  go_upto_region 2 with fail
  go_region_with (go_at_call 16; refine HCNT.out.mono ?_; rintro e w3 ⟨rfl, ws', W', hw3, hcd, hc3, hwl⟩; have HW3 : Hid (WAt w3 sb 26 ws' W') := hw3; have HCD : Hid (Counted ws ws' (slots j)) := hcd; have HC3 : Hid (Chg (fun x t => W x ∨ (x = sb ∧ t = 26)) w2.drew w3) := hc3; have HWL : Hid (∀ x, x < w2.drew.heap.size → W' x → W x) := hwl; clear hw3 hcd hc3 hwl)
  all_goals go_wp2
  all_goals go_end0
  have C3 : Chg (fun x t => W x ∨ (x = sb ∧ t = 26)) w2 w3 := ((Chg.refl _ w2).drew).trans HC3.out (fun x t _ e => e)
  have z1 := HC1.out.size
  have z2 := HC2.out.size
  have hwl : ∀ x, x < w2.heap.size → W' x → W x := fun x hx => HWL.out x hx
  have hW3 : ∀ x, W' x → x < w3.heap.size := fun x hx => by
    rcases HW3.out.st with ⟨_, _, h3⟩ | ⟨g, c, _, h2, _, h4⟩
    · exact absurd hx (h3 x)
    · rw [(h4 x).1 hx]; exact h2.lt
  have r2n : ∀ x, R2' x → ¬ W x ∧ x ≠ sb := fun x hx => by
    rcases Nat.lt_or_ge x w1.heap.size with hl | hl
    · obtain ⟨a1, a2, _⟩ := H.out.d2 x ((HR2.out x hl).1 hx)
      exact ⟨a1, a2⟩
    · have g3 : sb < w.heap.size := World.block_lt_of_cell? _ _ H.out.c25
      exact ⟨fun hw => by have := (H.out.dw x hw).2.2.2; omega, by omega⟩
  have n3 : ∀ x t, x ≠ sb → ¬ W x → ¬ (W x ∨ (x = sb ∧ t = 26)) := fun x t a b e => by rcases e with e | e; exact b e; exact a e.1
  obtain ⟨pp1, hp1⟩ := HP1.out
  obtain ⟨pp2, hp2⟩ := HP2.out
  refine ⟨rfl, R1', R2', W', xs', ys', ws', HQ12.out.next C3 (fun t _ ht e => ?_) (fun x t hx => ?_), HQ2.out.next C3 (fun t _ _ => n3 wb t (fun e => e1 e.symm) (HN.out wb (Or.inr (Or.inl rfl))).2.2) (fun x t hx => n3 x t (r2n x hx).2 (r2n x hx).1), HW3.out, HCD.out, HM1.out, HM2.out, ?_, fun x hx => ⟨(HR1.out x hx).1, (HR2.out x (by omega)).1, hwl x (by omega)⟩, fun x => ⟨fun hx => ?_, fun hx hw => ?_⟩, hW3, ⟨pp1, C3.keep (HC2.out.keep hp1 (HX2.out j 0 f5 f2 (Or.inr (by omega)))) (n3 j 0 f4 f3)⟩, ⟨pp2, C3.keep hp2 (n3 j 1 f4 f3)⟩⟩
  · rcases e with e | e
    · exact (HN.out sb (Or.inl rfl)).2.2 e
    · have := e.2; omega
  · obtain ⟨a1, a2, a3, _⟩ := HR1N.out x hx
    exact n3 x t a3 a2
  · refine ((HC1.out.mono (fun x t _ e => ?_)).trans HC2.out (fun x t _ e => ?_)).trans C3 (fun x t _ e => ?_)
    · rcases e with e | e | e
      · exact Or.inl e
      · exact Or.inr (Or.inr (Or.inr (Or.inl ⟨e.1, by have := e.2; omega⟩)))
      · exact Or.inr (Or.inr (Or.inr (Or.inr (Or.inr ⟨e.1, by have := e.2; omega⟩))))
    · rcases e with e | e | e
      · exact Or.inr (Or.inl e)
      · exact Or.inr (Or.inr (Or.inr (Or.inr (Or.inl ⟨e.1, by have := e.2; omega⟩))))
      · refine Or.inr (Or.inr (Or.inr (Or.inr (Or.inr ⟨?_, by have := e.2; omega⟩))))
        rcases e.1 with e | e
        · exact Or.inl e
        · exact Or.inr ((H.out.same x).2 e)
    · rcases e with e | e
      · exact Or.inr (Or.inr (Or.inl e))
      · exact Or.inr (Or.inr (Or.inr (Or.inl ⟨e.1, by have := e.2; omega⟩)))
  · obtain ⟨a1, a2, _⟩ := HR1N.out x hx
    have hlx := HQ1.out.lt x hx
    exact ⟨fun hr => a1 ((HR2.out x hlx).1 hr), fun hw => a2 (hwl x (by omega) hw)⟩
  · have hlx := HQ2.out.lt x hx
    exact (r2n x hx).1 (hwl x hlx hw)

theorem counted_asc {ws ws' : List (Int × Int)} {v : Int} (h : Counted ws ws' v) (ha : ws.Pairwise (fun a b => a.1 < b.1)) : ws'.Pairwise (fun a b => a.1 < b.1) := by
  obtain ⟨t, ht, hlo, h⟩ := h
  rcases h with ⟨c, hc, rfl⟩ | ⟨hhi, rfl⟩
  · rw [List.pairwise_iff_getElem] at ha ⊢
    intro i k hi hk hik
    rw [List.length_set] at hi hk
    have e := (List.getElem?_eq_some_iff.1 hc).2
    have := ha i k hi hk hik
    rw [List.getElem_set, List.getElem_set]
    split
    · rename_i e1
      split
      · omega
      · subst e1; rw [e] at this; exact this
    · split
      · rename_i e2; subst e2; rw [e] at this; exact this
      · exact this
  · have h0 := ha
    rw [← List.take_append_drop t ws, List.pairwise_append] at h0
    rw [List.pairwise_append, List.pairwise_cons]
    refine ⟨h0.1, ⟨fun p hp => ?_, h0.2.1⟩, fun p hp q hq => ?_⟩
    · obtain ⟨i, hi, e⟩ := List.getElem_of_mem hp
      rw [List.getElem_drop] at e
      exact hhi (t + i) p (by omega) (by rw [← e]; exact List.getElem?_eq_getElem _)
    · rcases List.mem_cons.1 hq with rfl | hq
      · obtain ⟨i, hi, e⟩ := List.getElem_of_mem hp
        rw [List.getElem_take] at e
        rw [List.length_take] at hi
        exact hlo i p (by omega) (by rw [← e]; exact List.getElem?_eq_getElem _)
      · exact h0.2.2 p hp q hq

theorem counted_mem {ws ws' : List (Int × Int)} {v : Int} (h : Counted ws ws' v) : ∀ p ∈ ws', p ∈ ws ∨ p = (v, 1) ∨ ∃ c, (v, c) ∈ ws ∧ p = (v, c + 1) := fun p hp => by
  obtain ⟨t, ht, hlo, h⟩ := h
  rcases h with ⟨c, hc, rfl⟩ | ⟨hhi, rfl⟩
  · rcases List.mem_or_eq_of_mem_set hp with h | h
    · exact Or.inl h
    · exact Or.inr (Or.inr ⟨c, List.mem_of_getElem? hc, h⟩)
  · rcases List.mem_append.1 hp with h | h
    · exact Or.inl (List.mem_of_mem_take h)
    · rcases List.mem_cons.1 h with h | h
      · exact Or.inr (Or.inl h)
      · exact Or.inl (List.mem_of_mem_drop h)

theorem counted_length {ws ws' : List (Int × Int)} {v : Int} (h : Counted ws ws' v) : ws'.length ≤ ws.length + 1 := by
  obtain ⟨t, ht, hlo, h⟩ := h
  rcases h with ⟨c, hc, rfl⟩ | ⟨hhi, rfl⟩
  · rw [List.length_set]; omega
  · simp; omega

/-- What waitIn turns. -/
def XW (sb wb nb : Nat) (R1 R2 W : Nat → Prop) (j : Nat) (xs : List Nat) (x t : Nat) : Prop := XE sb wb R1 R2 W j xs x t ∨ (x = sb ∧ t = 3) ∨ (x = nb ∧ t = 24) ∨ (x = j ∧ t = 3)

set_option maxHeartbeats 4000000 in
set_option maxRecDepth 100000 in
theorem waitIn6 {w : World} {sb wb spb nb : Nat} {n : Int} {R1 R2 W : Nat → Prop} {xs ys : List Nat} {ws : List (Int × Int)} {id slots : Nat → Int} (j : Nat) (v3 vn : Int) (h : Sub w sb wb spb n R1 R2 W xs ys ws id slots) (hn : n + 1 ≤ 100000) (hj : JobAt w j (id j) (slots j)) (hjf : Free sb wb spb R1 R2 W j) (hne : ∀ k ∈ xs, id k ≠ id j)
    (hnb : Free sb wb spb R1 R2 W nb) (hnx : nb ≠ j ∧ nb ∉ xs) (hnp : Plain w nb 94) (h3 : w.cell? ⟨sb, 3, none⟩ = some (.int .i64 v3)) (h24 : w.cell? ⟨nb, 24, none⟩ = some (.int .i64 vn)) (hj3 : ∃ u, w.cell? ⟨j, 3, none⟩ = some u) :
    Calls Ybaz.prog 6 #[.pointer (some ⟨nb, 0, none⟩), .pointer (some ⟨sb, 0, none⟩), .pointer (some ⟨j, 0, none⟩)] w fun e w' => e = .returned (.tuple #[]) ∧ ∃ R1' R2' W' xs' ys' ws', Sub w' sb wb spb (n + 1) R1' R2' W' xs' ys' ws' id slots ∧ Counted ws ws' (slots j) ∧ (∀ a, a ∈ xs' ↔ a = j ∨ a ∈ xs) ∧
      w'.cell? ⟨sb, 3, none⟩ = some (.int .i64 (wrap64 (v3 + slots j))) ∧ w'.cell? ⟨nb, 24, none⟩ = some (.int .i64 (wrap64 (vn + 1))) ∧ w'.cell? ⟨j, 3, none⟩ = some (.int .u8 1) ∧ (∃ p, w'.cell? ⟨j, 0, none⟩ = some (ptr p)) ∧ (∃ p, w'.cell? ⟨j, 1, none⟩ = some (ptr p)) ∧
      Chg (XW sb wb nb R1 R2 W j xs) w w' ∧ (∀ x, x < w.heap.size → (R1' x → R1 x) ∧ (R2' x → R2 x) ∧ (W' x → W x)) := by
  have H : Hid (Sub w sb wb spb n R1 R2 W xs ys ws id slots) := h
  have HJ : Hid (JobAt w j (id j) (slots j)) := hj
  have HJF : Hid (Free sb wb spb R1 R2 W j) := hjf
  have HNB : Hid (Free sb wb spb R1 R2 W nb ∧ nb ≠ j ∧ nb ∉ xs) := ⟨hnb, hnx⟩
  have henq := enqueue11 j h hj hjf hne
  have HENQ : Hid (Calls Ybaz.prog 11 #[.pointer (some ⟨sb, 0, none⟩), .pointer (some ⟨j, 0, none⟩)] w _) := henq
  have HNP : Hid (Plain w nb 94) := hnp
  have HNE : Hid (n + 1 ≤ 100000) := hn
  have hsbR : ¬ R1 sb ∧ ¬ R2 sb ∧ ¬ W sb := ⟨fun e => (h.d1 sb e).2.2.1 rfl, fun e => (h.d2 sb e).2.1 rfl, fun e => (h.dw sb e).1 rfl⟩
  have hjm : j ≠ sb ∧ j ≠ wb := ⟨hjf.2.2.2.1, hjf.2.2.2.2.1⟩
  have hsbx : sb ∉ xs := fun e => (h.job sb e).2.2.2.2.1 rfl
  have nE3 : ¬ XE sb wb R1 R2 W j xs sb 3 := fun e => by
    rcases e with e | e | e | e | e | e
    · exact hsbR.1 e
    · exact hsbR.2.1 e
    · exact hsbR.2.2 e
    · have := e.2; omega
    · exact h.ne.1 e.1
    · have := e.2; omega
  have nEn : ∀ t, ¬ XE sb wb R1 R2 W j xs nb t := fun t e => by
    obtain ⟨b1, b2, b3, b4, b5, b6⟩ := hnb
    rcases e with e | e | e | e | e | e
    · exact b1 e
    · exact b2 e
    · exact b3 e
    · exact b4 e.1
    · exact b5 e.1
    · rcases e.1 with e | e
      · exact hnx.1 e
      · exact hnx.2 e
  have nEj : ∀ t, 2 ≤ t → ¬ XE sb wb R1 R2 W j xs j t := fun t ht e => by
    obtain ⟨b1, b2, b3, b4, b5, b6⟩ := hjf
    rcases e with e | e | e | e | e | e
    · exact b1 e
    · exact b2 e
    · exact b3 e
    · exact b4 e.1
    · exact b5 e.1
    · have := e.2; omega
  have HNE3 : Hid (¬ XE sb wb R1 R2 W j xs sb 3) := nE3
  have HNEN : Hid (∀ t, ¬ XE sb wb R1 R2 W j xs nb t) := nEn
  have HNEJ : Hid (∀ t, 2 ≤ t → ¬ XE sb wb R1 R2 W j xs j t) := nEj
  clear henq h hj hjf hnb hnp hne nE3 nEn nEj hn
  go_enter Ybaz.func6, Ybaz.ntmps6
  go_upto_region 1 with (go_at_call 11; fail)
  refine HENQ.out.mono ?_
  rintro e w1 ⟨rfl, R1', R2', W', xs', ys', ws', q1, q2, wt, cd, m1, m2, c1, r1, dd, wl1, p0, p1⟩
  have HQ1 : Hid (Queue w1 sb 17 0 spb (n + 1) R1' xs' id) := q1
  have HQ2 : Hid (Queue w1 wb 0 1 spb (n + 1) R2' ys' id) := q2
  have HWT : Hid (WAt w1 sb 26 ws' W') := wt
  have HCD : Hid (Counted ws ws' (slots j)) := cd
  have HM : Hid ((∀ a, a ∈ xs' ↔ a = j ∨ a ∈ xs) ∧ (∀ a, a ∈ ys' ↔ a = j ∨ a ∈ ys)) := ⟨m1, m2⟩
  have HC1 : Hid (Chg (XE sb wb R1 R2 W j xs) w w1) := c1
  have HR1 : Hid (∀ x, x < w.heap.size → (R1' x → R1 x) ∧ (R2' x → R2 x) ∧ (W' x → W x)) := r1
  have HDD : Hid (∀ x, (R1' x → ¬ R2' x ∧ ¬ W' x) ∧ (R2' x → ¬ W' x)) := dd
  have HWL : Hid (∀ x, W' x → x < w1.heap.size) := wl1
  have HP : Hid ((∃ p, w1.cell? ⟨j, 0, none⟩ = some (ptr p)) ∧ ∃ p, w1.cell? ⟨j, 1, none⟩ = some (ptr p)) := ⟨p0, p1⟩
  have s3 := c1.keep h3 HNE3.out
  have s24 := c1.keep h24 (HNEN.out 24)
  have sj8 := c1.keep HJ.out.c8 (HNEJ.out 8 (by omega))
  obtain ⟨uj, huj⟩ := hj3
  have sj3 := c1.keep huj (HNEJ.out 3 (by omega))
  have fs : w1.frozen? ⟨sb, 3, none⟩ = false := by obtain ⟨tp, hp⟩ := HQ1.out.pl; exact hp.free 3
  have fn : w1.frozen? ⟨nb, 24, none⟩ = false := (c1.pln _ _ HNP.out).free 24
  have fj : w1.frozen? ⟨j, 3, none⟩ = false := (c1.pln _ _ HJ.out.pl).free 3
  have hnsb : nb ≠ sb := HNB.out.1.2.2.2.1
  have hnj : nb ≠ j := HNB.out.2.1
  have hjs : j ≠ sb := HJF.out.2.2.2.1
  clear q1 q2 wt cd m1 m2 c1 r1 dd wl1 p0 p1
  go_upto_region 1 with fail
  go_region
  all_goals go_wp2
  all_goals go_end0
  obtain ⟨w2, hw2⟩ : ∃ w2, w2 = (((w1.setCell ⟨sb, 3, none⟩ (.int .i64 (wrap64 (v3 + slots j)))).setCell ⟨nb, 24, none⟩ (.int .i64 (wrap64 (vn + 1)))).setCell ⟨j, 3, none⟩ (.int .u8 1)).drew := ⟨_, rfl⟩
  rw [← hw2]
  have C2 : Chg (fun x t => (x = sb ∧ t = 3) ∨ (x = nb ∧ t = 24) ∨ (x = j ∧ t = 3)) w1 w2 := by
    rw [hw2]
    exact ((((Chg.refl _ w1).set sb 3 _ (fun _ => Or.inl ⟨rfl, rfl⟩)).set nb 24 _ (fun _ => Or.inr (Or.inl ⟨rfl, rfl⟩))).set j 3 _ (fun _ => Or.inr (Or.inr ⟨rfl, rfl⟩))).drew
  have hz1 := HC1.out.size
  obtain ⟨jf1, jf2, jf3, jf4, jf5, jf6⟩ := HJF.out
  obtain ⟨⟨nf1, nf2, nf3, nf4, nf5, nf6⟩, nf7, nf8⟩ := HNB.out
  have g3 : sb < w.heap.size := World.block_lt_of_cell? _ _ h3
  have g4 : wb < w.heap.size := World.block_lt_of_cell? _ _ H.out.q2.c0
  have g5 : spb < w.heap.size := World.block_lt_of_cell? _ _ H.out.sp.choose_spec
  have g6 := HJ.out.pl.lt
  have g7 := HNP.out.lt
  have far : ∀ x, (R1' x ∨ R2' x ∨ W' x) → x ≠ sb ∧ x ≠ wb ∧ x ≠ spb ∧ x ≠ nb ∧ x ≠ j ∧ x ∉ xs := fun x hx => by
    rcases Nat.lt_or_ge x w.heap.size with hl | hl
    · obtain ⟨a1, a2, a3⟩ := HR1.out x hl
      have hx' : R1 x ∨ R2 x ∨ W x := by
        rcases hx with h | h | h
        · exact Or.inl (a1 h)
        · exact Or.inr (Or.inl (a2 h))
        · exact Or.inr (Or.inr (a3 h))
      have fr : ∀ k, Free sb wb spb R1 R2 W k → x ≠ k := fun k hk e => by
        subst e
        rcases hx' with h | h | h
        · exact hk.1 h
        · exact hk.2.1 h
        · exact hk.2.2.1 h
      have b : x ≠ sb ∧ x ≠ wb ∧ x ≠ spb := by
        rcases hx' with h | h | h
        · exact (H.out.d1 x h).2.2
        · exact (H.out.d2 x h).2
        · exact ⟨(H.out.dw x h).1, (H.out.dw x h).2.1, (H.out.dw x h).2.2.1⟩
      exact ⟨b.1, b.2.1, b.2.2, fr nb HNB.out.1, fr j HJF.out, fun hm => fr x (H.out.job x hm).2 rfl⟩
    · exact ⟨by omega, by omega, by omega, by omega, by omega, fun hm => by have := (H.out.job x hm).1.pl.lt; omega⟩
  have n2 : ∀ x t, (R1' x ∨ R2' x ∨ W' x) → ¬ ((x = sb ∧ t = 3) ∨ (x = nb ∧ t = 24) ∨ (x = j ∧ t = 3)) := fun x t hx e => by
    obtain ⟨a1, a2, a3, a4, a5, a6⟩ := far x hx
    rcases e with e | e | e
    · exact a1 e.1
    · exact a4 e.1
    · exact a5 e.1
  have nsb : ∀ t, t ≠ 3 → ¬ ((sb = sb ∧ t = 3) ∨ (sb = nb ∧ t = 24) ∨ (sb = j ∧ t = 3)) := fun t ht e => by
    rcases e with e | e | e
    · exact ht e.2
    · exact hnsb e.1.symm
    · exact hjs e.1.symm
  have nwb : ∀ t, ¬ ((wb = sb ∧ t = 3) ∨ (wb = nb ∧ t = 24) ∨ (wb = j ∧ t = 3)) := fun t e => by
    rcases e with e | e | e
    · exact H.out.ne.1 e.1.symm
    · exact nf5 e.1.symm
    · exact jf5 e.1.symm
  have CT : Chg (XW sb wb nb R1 R2 W j xs) w w2 := (HC1.out.mono (fun x t _ e => Or.inl e)).trans C2 (fun x t _ e => Or.inr e)
  obtain ⟨pp0, hp0⟩ := HP.out.1
  obtain ⟨pp1, hp1⟩ := HP.out.2
  have nj2 : ∀ t, t ≠ 3 → ¬ ((j = sb ∧ t = 3) ∨ (j = nb ∧ t = 24) ∨ (j = j ∧ t = 3)) := fun t ht e => by
    rcases e with e | e | e
    · exact hjs e.1
    · exact hnj e.1.symm
    · exact ht e.2
  have freeN : ∀ k, k < w.heap.size → Free sb wb spb R1 R2 W k → Free sb wb spb R1' R2' W' k := fun k hk hf => by
    obtain ⟨a1, a2, a3⟩ := HR1.out k hk
    exact ⟨fun e => hf.1 (a1 e), fun e => hf.2.1 (a2 e), fun e => hf.2.2.1 (a3 e), hf.2.2.2⟩
  have jobN : ∀ k ∈ xs', JobAt w2 k (id k) (slots k) ∧ Free sb wb spb R1' R2' W' k := fun k hk => by
    rcases (HM.out.1 k).1 hk with e | e
    · subst e
      exact ⟨HJ.out.next' CT (fun t ht e => by
        rcases e with e | e | e | e
        · exact HNEJ.out t (by omega) e
        · exact hjs e.1
        · exact hnj e.1.symm
        · have := e.2; omega), freeN _ g6 HJF.out⟩
    · obtain ⟨k1, k2⟩ := H.out.job k e
      refine ⟨k1.next' CT (fun t ht e' => ?_), freeN k k1.pl.lt k2⟩
      obtain ⟨b1, b2, b3, b4, b5, b6⟩ := k2
      rcases e' with e' | e' | e' | e'
      · rcases e' with e' | e' | e' | e' | e' | e'
        · exact b1 e'
        · exact b2 e'
        · exact b3 e'
        · exact b4 e'.1
        · exact b5 e'.1
        · have := e'.2; omega
      · exact b4 e'.1
      · exact nf8 (e'.1 ▸ e)
      · have := e'.2; omega
  refine ⟨rfl, R1', R2', W', xs', ys', ws', ⟨HQ1.out.next C2 (fun t h1 _ => nsb t (by omega)) (fun x t hx => n2 x t (Or.inl hx)), HQ2.out.next C2 (fun t _ _ => nwb t) (fun x t hx => n2 x t (Or.inr (Or.inl hx))), HWT.out.next C2 (nsb 26 (by omega)) (fun x t hx => n2 x t (Or.inr (Or.inr hx))), ?_, ?_, fun a => ?_, jobN, fun x hx => ?_, fun x hx => ?_, fun x hx => ?_, H.out.ne, counted_asc HCD.out H.out.asc, fun p hp => ?_, ?_, ?_⟩, HCD.out, HM.out.1, ?_, ?_, ?_, ⟨pp0, C2.keep hp0 (nj2 0 (by omega))⟩, ⟨pp1, C2.keep hp1 (nj2 1 (by omega))⟩, CT, HR1.out⟩
  · refine C2.keep (HC1.out.keep H.out.c25 (fun e => ?_)) (nsb 25 (by omega))
    rcases e with e | e | e | e | e | e
    · exact hsbR.1 e
    · exact hsbR.2.1 e
    · exact hsbR.2.2 e
    · have := e.2; omega
    · exact H.out.ne.1 e.1
    · have := e.2; omega
  · refine ⟨_, C2.keep (HC1.out.keep H.out.sp.choose_spec (fun e => ?_)) (fun e => ?_)⟩
    · rcases e with e | e | e | e | e | e
      · exact (H.out.d1 spb e).2.2.2.2 rfl
      · exact (H.out.d2 spb e).2.2.2 rfl
      · exact (H.out.dw spb e).2.2.1 rfl
      · exact H.out.ne.2.1 e.1.symm
      · exact H.out.ne.2.2 e.1.symm
      · rcases e.1 with e | e
        · exact jf6 e.symm
        · exact (H.out.job spb e).2.2.2.2.2.2 rfl
    · rcases e with e | e | e
      · exact H.out.ne.2.1 e.1.symm
      · exact nf6 e.1.symm
      · exact jf6 e.1.symm
  · rw [HM.out.1 a, HM.out.2 a, H.out.same a]
  · obtain ⟨a1, a2, a3, _⟩ := far x (Or.inl hx)
    obtain ⟨d1, d2⟩ := (HDD.out x).1 hx
    exact ⟨d1, d2, a1, a2, a3⟩
  · obtain ⟨a1, a2, a3, _⟩ := far x (Or.inr (Or.inl hx))
    exact ⟨(HDD.out x).2 hx, a1, a2, a3⟩
  · obtain ⟨a1, a2, a3, _⟩ := far x (Or.inr (Or.inr hx))
    exact ⟨a1, a2, a3, Nat.lt_of_lt_of_le (HWL.out x hx) C2.size⟩
  · have := H.out.nn
    rcases counted_mem HCD.out p hp with e | e | ⟨c, hc, e⟩
    · have := H.out.cnt p e; omega
    · rw [e]; show (0 : Int) < 1 ∧ (1 : Int) ≤ n + 1; omega
    · have := H.out.cnt _ hc
      rw [e]
      show (0 : Int) < c + 1 ∧ c + 1 ≤ n + 1
      have h1 : (0 : Int) < c := this.1
      have h2 : c ≤ n := this.2
      omega
  · have h1 := counted_length HCD.out
    have h2 := H.out.big
    omega
  · have h1 := H.out.nn
    have h2 := HNE.out
    omega
  · rw [hw2, cell_drew, World.cell?_setCell_other _ _ _ _ (by intro e; cases e; exact hjs rfl), World.cell?_setCell_other _ _ _ _ (by intro e; cases e)]
    exact World.cell?_setCell_same _ _ _ s3
  · rw [hw2, cell_drew, World.cell?_setCell_other _ _ _ _ (by intro e; cases e)]
    exact World.cell?_setCell_same _ _ _ (by rw [World.cell?_setCell_other _ _ _ _ (by intro e; cases e)]; exact s24)
  · rw [hw2, cell_drew]
    exact World.cell?_setCell_same _ _ _ (by rw [World.cell?_setCell_other _ _ _ _ (by intro e; cases e), World.cell?_setCell_other _ _ _ _ (by intro e; cases e; exact hjs rfl)]; exact sj3)
end Go.Proofs.YbulkdxqmGreatFmt
