/- LawS6213CWhole: a queue, empty or not; insert into it. -/
import Derived.Test.YbulkdxqmGreatFmtInsNil
namespace Go.Proofs.YbulkdxqmGreatFmt
set_option linter.unusedVariables false
open Go.RowKit

/-- A queue in memory: its jobs xs in order, R: the blocks that are its own. -/
structure Queue (w : World) (qb qo sl spb : Nat) (n : Int) (R : Nat → Prop) (xs : List Nat) (id : Nat → Int) : Prop where
  pl : ∃ t, Plain w qb t
  c0 : w.cell? ⟨qb, qo, none⟩ = some (.func (.func 4) #[] #[])
  c1 : w.cell? ⟨qb, qo + 1, none⟩ = some (.int .i64 sl)
  c2 : w.cell? ⟨qb, qo + 2, none⟩ = some (.bool false)
  c4 : w.cell? ⟨qb, qo + 4, none⟩ = some (.int .i64 n)
  c5 : w.cell? ⟨qb, qo + 5, none⟩ = some (.int .i64 0)
  c6 : I64 w qb (qo + 6)
  c7 : w.cell? ⟨qb, qo + 7, none⟩ = some (.pointer (some ⟨spb, 0, none⟩))
  so : xs.Pairwise (fun a b => id a < id b)
  lt : ∀ x, R x → x < w.heap.size
  st : (xs = [] ∧ w.cell? ⟨qb, qo + 3, none⟩ = some (.pointer none) ∧ ∀ x, ¬ R x) ∨ ∃ G root, Inv w G none root ∧ G.flat = xs ∧ w.cell? ⟨qb, qo + 3, none⟩ = some (.pointer (some ⟨root, 0, none⟩)) ∧ ∀ x, R x ↔ G.R x ≠ none

theorem Queue.next {w w' : World} {X : Nat → Nat → Prop} {qb qo sl spb : Nat} {n : Int} {R : Nat → Prop} {xs : List Nat} {id : Nat → Int} (h : Queue w qb qo sl spb n R xs id) (hc : Chg X w w') (hq : ∀ t, qo ≤ t → t ≤ qo + 7 → ¬ X qb t) (hR : ∀ x t, R x → ¬ X x t) : Queue w' qb qo sl spb n R xs id := by
  obtain ⟨tq, h0⟩ := h.pl
  obtain ⟨v6, h6⟩ := h.c6
  refine ⟨⟨tq, hc.pln _ _ h0⟩, hc.keep h.c0 (hq _ (by omega) (by omega)), hc.keep h.c1 (hq _ (by omega) (by omega)), hc.keep h.c2 (hq _ (by omega) (by omega)), hc.keep h.c4 (hq _ (by omega) (by omega)), hc.keep h.c5 (hq _ (by omega) (by omega)), ⟨v6, hc.keep h6 (hq _ (by omega) (by omega))⟩, hc.keep h.c7 (hq _ (by omega) (by omega)), h.so, fun x hx => Nat.lt_of_lt_of_le (h.lt x hx) hc.size, ?_⟩
  rcases h.st with ⟨h1, h2, h3⟩ | ⟨G, root, h1, h2, h3, h4⟩
  · exact Or.inl ⟨h1, hc.keep h2 (hq _ (by omega) (by omega)), h3⟩
  · refine Or.inr ⟨G, root, h1.next hc (fun x t _ e => ?_), h2, hc.keep h3 (hq _ (by omega) (by omega)), h4⟩
    cases hRx : G.R x with
    | none => rfl
    | some y => exact absurd e (hR x t ((h4 x).2 (by rw [hRx]; simp)))

/-- What insert turns. -/
def XQ (R : Nat → Prop) (qb qo sl j : Nat) (xs : List Nat) (x t : Nat) : Prop := R x ∨ (x = qb ∧ (t = qo + 3 ∨ t = qo + 4 ∨ t = qo + 6)) ∨ ((x = j ∨ x ∈ xs) ∧ t = sl)

theorem insertQ {w : World} {qb qo sl spb : Nat} {n : Int} {R : Nat → Prop} {xs : List Nat} {id slots : Nat → Int} (j : Nat) (h : Queue w qb qo sl spb n R xs id) {spa : Option Addr} (hspb : w.cell? ⟨spb, 0, none⟩ = some (.slice spa 0 0)) (hsq : spb ≠ qb) (hn1 : 0 ≤ n) (hn2 : n ≤ 1000000) (hsl : sl < 3) (hRq : ¬ R qb)
    (hj : JobAt w j (id j) (slots j)) (hjR : ¬ R j) (hjq : j ≠ qb) (hjob : ∀ k ∈ xs, ¬ R k ∧ k ≠ qb ∧ JobAt w k (id k) (slots k)) (hne : ∀ k ∈ xs, id k ≠ id j) :
    Calls Ybaz.prog 15 #[.pointer (some ⟨qb, qo, none⟩), .pointer (some ⟨j, 0, none⟩)] w fun e w' => e = .returned (.tuple #[]) ∧ ∃ R' ys, Queue w' qb qo sl spb (n + 1) R' ys id ∧ (∀ a, a ∈ ys ↔ a = j ∨ a ∈ xs) ∧ Chg (XQ R qb qo sl j xs) w w' ∧ (∀ x, x < w.heap.size → (R' x ↔ R x)) ∧ ∃ p, w'.cell? ⟨j, sl, none⟩ = some (ptr p) := by
  have hqw : qb < w.heap.size := World.block_lt_of_cell? _ _ h.c0
  obtain ⟨mv, hmv⟩ := h.c6
  rcases h.st with ⟨h1, h2, h3⟩ | ⟨G, root, h1, h2, h3, h4⟩
  · subst h1
    refine (insert15_nil w qb qo sl j spb n mv id slots h.pl h.c0 h.c1 h.c2 h2 h.c4 hmv h.c7 hspb hn1 hn2 hsl hsq hj hjq).mono ?_
    rintro e w' ⟨rfl, G', root', i1, i2, i3, i4, i5, i6, i7, i8⟩
    have hk : ∀ t v, t ≠ qo + 3 → t ≠ qo + 4 → t ≠ qo + 6 → w.cell? ⟨qb, t, none⟩ = some v → w'.cell? ⟨qb, t, none⟩ = some v := fun t v a b c hc => i6.keep hc (fun e => by
      rcases e with e | e
      · rcases e.2 with e | e | e
        · exact a e
        · exact b e
        · exact c e
      · exact hjq e.1.symm)
    refine ⟨rfl, fun x => G'.R x ≠ none, [j], ⟨i3.pl, i3.c0, i3.c1, i3.c2, i4, hk _ _ (by omega) (by omega) (by omega) h.c5, i5, hk _ _ (by omega) (by omega) (by omega) h.c7, by simp, fun x hx => ?_, Or.inr ⟨G', root', i1, i2, i3.c3, fun x => Iff.rfl⟩⟩, fun a => by simp, i6.mono (fun x t _ e => ?_), fun x hx => ?_, i8⟩
    · rcases Nat.lt_or_ge x w'.heap.size with h' | h'
      · exact h'
      · exact absurd (i1.new x h') hx
    · rcases e with e | e
      · exact Or.inr (Or.inl e)
      · exact Or.inr (Or.inr ⟨Or.inl e.1, e.2⟩)
    · exact ⟨fun hx' => absurd (i7 x hx) hx', fun hx' => absurd hx' (h3 x)⟩
  · have hnone : ∀ x, ¬ R x → G.R x = none := fun x hx => by
      cases hr : G.R x with
      | none => rfl
      | some y => exact absurd ((h4 x).2 (by rw [hr]; simp)) hx
    refine (insert15 G w root qb qo sl j n mv id slots h1 ⟨h.pl, h.c0, h.c1, h.c2, h3⟩ h.c4 hmv hn1 hn2 (hnone _ hRq) hsl hj (hnone _ hjR) hjq (fun k hk => ?_) (by rw [h2]; exact h.so) (fun k hk => hne k (by rw [← h2]; exact hk))).mono ?_
    · obtain ⟨k1, k2, k3⟩ := hjob k (by rw [← h2]; exact hk)
      exact ⟨hnone _ k1, k2, k3⟩
    rintro e w' ⟨rfl, G', root', i1, i2, i3, i4, i5, i6, i7, i8, i9⟩
    have hk : ∀ t v, qo ≤ t → t ≠ qo + 3 → t ≠ qo + 4 → t ≠ qo + 6 → w.cell? ⟨qb, t, none⟩ = some v → w'.cell? ⟨qb, t, none⟩ = some v := fun t v _ a b c hc => i7.keep hc (fun e => by
      rcases e with e | e | e
      · exact e (hnone _ hRq)
      · rcases e.2 with e | e | e
        · exact a e
        · exact b e
        · exact c e
      · rcases e.1 with e1 | e1
        · exact hjq e1.symm
        · exact (hjob qb (by rw [← h2]; exact e1)).2.1 rfl)
    refine ⟨rfl, fun x => G'.R x ≠ none, G'.flat, ⟨i4.pl, i4.c0, i4.c1, i4.c2, i5, hk _ _ (by omega) (by omega) (by omega) (by omega) h.c5, i6, hk _ _ (by omega) (by omega) (by omega) (by omega) h.c7, i2, fun x hx => ?_, Or.inr ⟨G', root', i1, rfl, i4.c3, fun x => Iff.rfl⟩⟩, by rw [← h2]; exact i3, i7.mono (fun x t _ e => ?_), fun x hx => ?_, i9⟩
    · rcases Nat.lt_or_ge x w'.heap.size with h' | h'
      · exact h'
      · exact absurd (i1.new x h') hx
    · rcases e with e | e | e
      · exact Or.inl ((h4 x).2 e)
      · exact Or.inr (Or.inl e)
      · exact Or.inr (Or.inr (by rw [← h2]; exact e))
    · rw [h4 x]
      exact not_congr (i8 x hx)
end Go.Proofs.YbulkdxqmGreatFmt
