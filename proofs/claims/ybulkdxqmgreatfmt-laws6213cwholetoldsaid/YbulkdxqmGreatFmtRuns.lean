/- LawS6213CWhole: runs: its iterator hands on to walk. -/
import Derived.Test.YbulkdxqmGreatFmtWalk
import Derived.RangeFuncNested
namespace Go.Proofs.YbulkdxqmGreatFmt
set_option linter.unusedVariables false
set_option linter.unusedSimpArgs false
open Go Go.RowKit Go.Shelf

/-- A queue that is read: its root, or none; all of it below n₀. -/
structure QRead (W : World) (n₀ qb qo : Nat) (xs : List Nat) (slots : Nat → Int) : Prop where
  lt : qb < n₀
  job : ∀ k ∈ xs, k < n₀ ∧ W.cell? ⟨k, 8, none⟩ = some (.int .i64 (slots k))
  st : (xs = [] ∧ W.cell? ⟨qb, qo + 3, none⟩ = some (.pointer none)) ∨ ∃ G root, Inv W G none root ∧ G.flat = xs ∧ W.cell? ⟨qb, qo + 3, none⟩ = some (.pointer (some ⟨root, 0, none⟩)) ∧ ∀ x, G.R x ≠ none → x < n₀
theorem QRead.below {W W' : World} {n₀ qb qo : Nat} {xs : List Nat} {slots : Nat → Int} (h : QRead W n₀ qb qo xs slots) (hB : Below n₀ W W') : QRead W' n₀ qb qo xs slots := by
  refine ⟨h.lt, fun k hk => ⟨(h.job k hk).1, (hB.cell (p := ⟨k, 8, none⟩) (h.job k hk).1).trans (h.job k hk).2⟩, ?_⟩
  rcases h.st with ⟨h1, h2⟩ | ⟨G, root, h1, h2, h3, h4⟩
  · exact Or.inl ⟨h1, (hB.cell (p := ⟨qb, qo + 3, none⟩) h.lt).trans h2⟩
  · exact Or.inr ⟨G, root, h1.below hB h4, h2, (hB.cell (p := ⟨qb, qo + 3, none⟩) h.lt).trans h3, h4⟩

set_option maxRecDepth 100000 in
set_option maxHeartbeats 4000000 in
theorem runs52 (L n₀ qb qo qB pB : Nat) (xs : List Nat) (slots : Nat → Int) (J : List Nat → World → Prop) (hdr : ∀ pre W, J pre W → J pre W.drew)
    (hY : ∀ m pre x W, J pre W → pre ++ [x] <+: xs → YieldAt Fence.wide m Ybaz.prog L #[runOf slots x] W fun e W' => e = .returned (.bool true) ∧ J (pre ++ [x]) W' ∧ Below n₀ W W')
    (W : World) (hq : QRead W n₀ qb qo xs slots) (hqB : W.cell? ⟨qB, 0, none⟩ = some (.pointer (some ⟨qb, qo, none⟩))) (hpB : W.cell? ⟨pB, 0, none⟩ = some (.func (.func 30) #[] #[])) (hJ : J [] W) :
    Calls Ybaz.prog 52 #[.func (.yield L) #[] #[], .pointer (some ⟨qB, 0, none⟩), .pointer (some ⟨pB, 0, none⟩)] W fun e W' => (∃ v, e = .returned v) ∧ J xs W' ∧ Below n₀ W W' := by
  rcases hq.st with ⟨h1, h2⟩ | ⟨G, root, h1, h2, h3, h4⟩
  · subst h1
    have HJ : Hid (J [] W) := hJ
    clear hY hJ hq hdr
    go_enter Ybaz.func52, Ybaz.ntmps52
    go_wp2_with (first | (go_at_call 31; refine (settle31_nil qb qo _ h2).mono ?_; rintro e w1 ⟨rfl, hw⟩; obtain rfl : W = w1 := hw.symm) | go_in)
    go_end0
    exact ⟨⟨_, rfl⟩, HJ.out, Below.refl _ _⟩
  · have hroot : root ∈ G.L G.D := by rw [h1.shape.top]; simp
    have r23 := (h1.node G.D (Nat.le_refl _) root hroot).c23
    have hB0 : Below n₀ W W.drew := ⟨rfl, rfl, rfl, Nat.le_refl _, fun _ _ => rfl⟩
    have hT0 : Inv W.drew G none root ∧ ∀ k ∈ G.flat, k < n₀ ∧ W.drew.cell? ⟨k, 8, none⟩ = some (.int .i64 (slots k)) := ⟨h1.below hB0 h4, fun k hk => hq.job k (by rw [← h2]; exact hk)⟩
    have hw := walk_in L n₀ slots G root h4 J (fun m pre x W hJ hx => hY m pre x W hJ (by rw [← h2]; exact hx)) G.D root 0 [] W.drew (Nat.le_refl _) hroot (by rw [under_root h1.shape, List.nil_append]; exact List.prefix_refl _) hT0 (hdr _ _ hJ)
    rw [under_root h1.shape, h2, List.nil_append] at hw
    have HW : Hid (Calls Ybaz.prog 53 #[.pointer (some ⟨root, 0, none⟩), .func (.func 30) #[] #[], .func (.yield L) #[] #[]] W.drew fun e W' => e = .returned (.bool true) ∧ J xs W' ∧ Below n₀ W.drew W') := callsIn_wide.1 hw
    have HB0 : Hid (Below n₀ W W.drew) := hB0
    clear hw hT0 hY hJ hq hdr h1 hroot hB0
    go_enter Ybaz.func52, Ybaz.ntmps52
    go_upto_region 2 with (first | (go_at_call 31; refine (settle31 qb qo root _ h3 r23).mono ?_; rintro e w1 ⟨rfl, hw⟩; obtain rfl : W = w1 := hw.symm) | go_in)
    go_region_with (go_at_call 53; refine HW.out.mono ?_; rintro e w2 ⟨rfl, hJ2, hB2⟩; have HJ2 : Hid (J xs w2) := hJ2; have HB2 : Hid (Below n₀ W.drew w2) := hB2; clear hJ2 hB2)
    all_goals go_wp2
    all_goals go_end0
    all_goals exact ⟨⟨_, rfl⟩, HJ2.out, HB0.out.trans HB2.out⟩
end Go.Proofs.YbulkdxqmGreatFmt
