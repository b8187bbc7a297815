/- LawS6213CWhole: a job put into a leaf of a queue's tree, with no Go in sight. -/
import Derived.Test.YbulkdxqmGreatFmtPure
namespace Go.Proofs.YbulkdxqmGreatFmt
set_option linter.unusedVariables false

theorem flatMap_same {xs : List Nat} {f : Nat → List Nat} (h : (xs.flatMap f).Nodup) {x y a : Nat} (hx : x ∈ xs) (hy : y ∈ xs) (ha : a ∈ f x) (hb : a ∈ f y) : x = y := by
  induction xs with
  | nil => cases hx
  | cons z zs ih =>
    rw [List.flatMap_cons, List.nodup_append] at h
    obtain ⟨_, h2, h3⟩ := h
    rcases List.mem_cons.1 hx with e1 | h1 <;> rcases List.mem_cons.1 hy with e2 | h4
    · rw [e1, e2]
    · exact (h3 a (e1 ▸ ha) a (List.mem_flatMap.2 ⟨y, h4, hb⟩) rfl).elim
    · exact (h3 a (e2 ▸ hb) a (List.mem_flatMap.2 ⟨x, h1, ha⟩) rfl).elim
    · exact ih h2 h1 h4

theorem pairwise_heads {xs : List Nat} {f : Nat → List Nat} {R : Nat → Nat → Prop} (g : Nat → Nat) (h : (xs.flatMap f).Pairwise R) (hh : ∀ x ∈ xs, (f x).head? = some (g x)) : xs.Pairwise (fun x y => R (g x) (g y)) := by
  induction xs with
  | nil => exact .nil
  | cons z zs ih =>
    rw [List.flatMap_cons, List.pairwise_append] at h
    refine List.pairwise_cons.2 ⟨fun y hy => h.2.2 _ (List.mem_of_mem_head? (hh z (by simp))) _ (List.mem_flatMap.2 ⟨y, hy, List.mem_of_mem_head? (hh y (by simp [hy]))⟩), ih h.2.1 (fun x hx => hh x (by simp [hx]))⟩

theorem pairwise_part {xs : List Nat} {f : Nat → List Nat} {R : Nat → Nat → Prop} (h : (xs.flatMap f).Pairwise R) (x : Nat) (hx : x ∈ xs) : (f x).Pairwise R := by
  induction xs with
  | nil => cases hx
  | cons y ys ih =>
    rw [List.flatMap_cons, List.pairwise_append] at h
    rcases List.mem_cons.1 hx with rfl | hx
    · exact h.1
    · exact ih h.2.1 hx

theorem Shape.asc {G : Gh} {over : Option Nat} {root : Nat} (h : Shape G over root) (id : Nat → Int) (hs : G.flat.Pairwise (fun a b => id a < id b)) : ∀ l, l ≤ G.D → (G.L l).Pairwise (fun x y => id (G.F x) < id (G.F y))
  | 0, _ => pairwise_heads G.F hs (fun x hx => (h.leaf x hx).2.2)
  | l + 1, hl => by
    have ih := h.asc id hs l (by omega)
    rw [← h.chain l (by omega)] at ih
    refine (pairwise_heads (fun x => (G.K x).headD 0) ih (fun x hx => ?_)).imp_of_mem (fun {x y} hx hy hxy => ?_)
    · obtain ⟨_, _, k, hk, _⟩ := h.inner l (by omega) x hx
      cases hK : G.K x with
      | nil => rw [hK] at hk; cases hk
      | cons a tl => rfl
    · obtain ⟨_, _, k, hk, e⟩ := h.inner l (by omega) x hx
      obtain ⟨_, _, k', hk', e'⟩ := h.inner l (by omega) y hy
      rw [e, e']
      have e1 : (G.K x).headD 0 = k := by rw [List.headD_eq_head?_getD, hk]; rfl
      have e2 : (G.K y).headD 0 = k' := by rw [List.headD_eq_head?_getD, hk']; rfl
      rw [e1, e2] at hxy
      exact hxy

theorem Shape.kids_asc {G : Gh} {over : Option Nat} {root : Nat} (h : Shape G over root) (id : Nat → Int) (hs : G.flat.Pairwise (fun a b => id a < id b)) (l : Nat) (hl : l < G.D) (x : Nat) (hx : x ∈ G.L (l + 1)) : (G.K x).Pairwise (fun x y => id (G.F x) < id (G.F y)) := by
  have := h.asc id hs l (by omega)
  rw [← h.chain l hl] at this
  exact pairwise_part this x hx

theorem pw_turn {α : Type} {R S : α → α → Prop} {l : List α} (h : l.Pairwise R) (hRS : ∀ a b, R a b → S a b) : l.Pairwise S := by
  induction h with
  | nil => exact List.Pairwise.nil
  | cons h1 _ ih => exact List.Pairwise.cons (fun x hx => hRS _ _ (h1 x hx)) ih
theorem flat_nodup {G : Gh} (id : Nat → Int) (hs : G.flat.Pairwise (fun a b => id a < id b)) : G.flat.Nodup := pw_turn hs (fun a b hab e => by subst e; omega)

/-- The first node of each level bears the first job. -/
theorem Shape.heads {G : Gh} {over : Option Nat} {root : Nat} (h : Shape G over root) : ∀ d l, l + d = G.D → ∃ x, (G.L l).head? = some x ∧ G.F x = G.F root
  | 0, l, e => by
    have : l = G.D := by omega
    subst this
    exact ⟨root, by rw [h.top]; rfl, rfl⟩
  | d + 1, l, e => by
    obtain ⟨x, hx, hF⟩ := h.heads d (l + 1) (by omega)
    have hxm := List.mem_of_mem_head? hx
    obtain ⟨_, _, k, hk, hk2⟩ := h.inner l (by omega) x hxm
    refine ⟨k, ?_, by rw [← hk2, hF]⟩
    rw [← h.chain l (by omega)]
    cases hL : G.L (l + 1) with
    | nil => rw [hL] at hx; cases hx
    | cons y ys =>
      rw [hL] at hx
      obtain rfl : y = x := Option.some.inj hx
      rw [List.flatMap_cons, List.head?_append, hk]; rfl

/-- The block l levels above. -/
def anc (G : Gh) : Nat → Nat → Option Nat
  | 0, y => some y
  | l + 1, y => (anc G l y).bind G.U

theorem Shape.above {G : Gh} {over : Option Nat} {root : Nat} (h : Shape G over root) (l : Nat) (hl : l < G.D) (x : Nat) (hx : x ∈ G.L l) : ∃ u, u ∈ G.L (l + 1) ∧ x ∈ G.K u ∧ G.U x = some u := by
  have h2 : x ∈ (G.L (l + 1)).flatMap G.K := by rw [h.chain l hl]; exact hx
  obtain ⟨u, hu1, hu2⟩ := List.mem_flatMap.1 h2
  exact ⟨u, hu1, hu2, h.up l hl u hu1 x hu2⟩

theorem Shape.anc_mem {G : Gh} {over : Option Nat} {root : Nat} (h : Shape G over root) (b : Nat) (hb : b ∈ G.L 0) : ∀ l, l ≤ G.D → ∃ x, anc G l b = some x ∧ x ∈ G.L l
  | 0, _ => ⟨b, rfl, hb⟩
  | l + 1, hl => by
    obtain ⟨x, hx, hxL⟩ := h.anc_mem b hb l (by omega)
    obtain ⟨u, hu, _, hU⟩ := h.above l (by omega) x hxL
    exact ⟨u, by show (anc G l b).bind G.U = _; rw [hx]; exact hU, hu⟩

theorem Shape.anc_of {G : Gh} {over : Option Nat} {root : Nat} (h : Shape G over root) : ∀ l, l ≤ G.D → ∀ x ∈ G.L l, ∃ y ∈ G.L 0, G.F x = G.F y ∧ anc G l y = some x
  | 0, _, x, hx => ⟨x, hx, rfl, rfl⟩
  | l + 1, hl, x, hx => by
    obtain ⟨_, _, k, hk, e⟩ := h.inner l (by omega) x hx
    have hkm := List.mem_of_mem_head? hk
    obtain ⟨y, hy, e2, e3⟩ := h.anc_of l (by omega) k (h.kid l (by omega) x k hx hkm)
    exact ⟨y, hy, e.trans e2, by show (anc G l y).bind G.U = _; rw [e3]; exact h.up l (by omega) x hx k hkm⟩

theorem Shape.leaf_first {G : Gh} {over : Option Nat} {root : Nat} (h : Shape G over root) (hn : G.flat.Nodup) (x y : Nat) (hx : x ∈ G.L 0) (hy : y ∈ G.L 0) (e : G.F x = G.F y) : x = y := by
  have h1 := List.mem_of_mem_head? (h.leaf x hx).2.2
  have h2 := List.mem_of_mem_head? (h.leaf y hy).2.2
  rw [← e] at h2
  exact flatMap_same hn hx hy h1 h2

theorem Shape.anc_first {G : Gh} {over : Option Nat} {root : Nat} (h : Shape G over root) (hn : G.flat.Nodup) (l : Nat) (hl : l ≤ G.D) (x : Nat) (hx : x ∈ G.L l) (b : Nat) (hb : b ∈ G.L 0) (e : G.F x = G.F b) : anc G l b = some x := by
  obtain ⟨y, hy, e2, e3⟩ := h.anc_of l hl x hx
  obtain rfl := h.leaf_first hn y b hy hb (e2.symm.trans e)
  exact e3

theorem Shape.first_anc {G : Gh} {over : Option Nat} {root : Nat} (h : Shape G over root) (hn : G.flat.Nodup) (b : Nat) (hb : b ∈ G.L 0) (e : G.F b = G.F root) (l : Nat) (hl : l ≤ G.D) (x : Nat) (hx : anc G l b = some x) : G.F x = G.F b := by
  obtain ⟨y, hy, hF⟩ := h.heads (G.D - l) l (by omega)
  have := h.anc_first hn l hl y (List.mem_of_mem_head? hy) b hb (by rw [hF, e])
  rw [hx] at this
  obtain rfl := Option.some.inj this
  rw [hF, e]

/-- j put at i. -/
def insAt (xs : List Nat) (i j : Nat) : List Nat := xs.take i ++ j :: xs.drop i
theorem insAt_length (xs : List Nat) (i j : Nat) (hi : i ≤ xs.length) : (insAt xs i j).length = xs.length + 1 := by
  simp [insAt]; omega

def Gh.put (G : Gh) (b i j : Nat) : Gh :=
  { G with
    J := fun x => if x = b then insAt (G.J b) i j else G.J x
    F := fun x => if i = 0 ∧ G.F x = G.F b then j else G.F x }

theorem Shape.put {G : Gh} {root b i j : Nat} (h : Shape G none root) (hb : b ∈ G.L 0) (hi : i ≤ (G.J b).length) (hn : G.flat.Nodup) : Shape (G.put b i j) (if (G.J b).length = 16 then some b else none) root := by
  refine ⟨h.top, h.chain, h.nd, h.lev, h.up, h.upr, fun x hx => ?_, fun l hl x hx => ?_, h.own⟩
  · obtain ⟨q1, q2, q3⟩ := h.leaf x hx
    have q2' : (G.J x).length ≤ 16 := q2
    by_cases e : x = b
    · subst e
      have eJ : (G.put x i j).J x = insAt (G.J x) i j := if_pos rfl
      rw [eJ, insAt_length _ _ _ hi]
      refine ⟨by omega, ?_, ?_⟩
      · by_cases h16 : (G.J x).length = 16
        · rw [if_pos h16]; simp [ov]; omega
        · omega
      · by_cases e0 : i = 0
        · subst e0
          have eF : (G.put x 0 j).F x = j := if_pos ⟨rfl, rfl⟩
          rw [eF]; simp [insAt]
        · have eF : (G.put x i j).F x = G.F x := if_neg (fun c => e0 c.1)
          rw [eF, ← q3]
          unfold insAt
          rw [List.head?_append, List.head?_take, if_neg e0, q3]; rfl
    · have eJ : (G.put b i j).J x = G.J x := if_neg e
      have eF : (G.put b i j).F x = G.F x := if_neg (fun c => e (h.leaf_first hn x b hx hb c.2))
      rw [eJ, eF]
      exact ⟨q1, by omega, q3⟩
  · obtain ⟨q1, q2, k, q3, q4⟩ := h.inner l hl x hx
    have q2' : (G.K x).length ≤ 8 := q2
    refine ⟨q1, ?_, k, q3, ?_⟩
    · show (G.K x).length ≤ _; omega
    · show (if i = 0 ∧ G.F x = G.F b then j else G.F x) = (if i = 0 ∧ G.F k = G.F b then j else G.F k)
      rw [q4]

/-- Where j goes at level l: x is the last node whose first job comes before, or the first node. -/
structure Pos (G : Gh) (id : Nat → Int) (v : Int) (l x : Nat) (pl ql : List Nat) : Prop where
  eq : G.L l = pl ++ x :: ql
  lo : id (G.F x) < v ∨ pl = []
  hi : ∀ y, ql.head? = some y → v < id (G.F y)

theorem Pos.mem {G : Gh} {id : Nat → Int} {v : Int} {l x : Nat} {pl ql : List Nat} (h : Pos G id v l x pl ql) : x ∈ G.L l := by rw [h.eq]; simp

theorem Pos.top {G : Gh} {over : Option Nat} {root : Nat} (h : Shape G over root) (id : Nat → Int) (v : Int) : Pos G id v G.D root [] [] := ⟨h.top, Or.inr rfl, fun y hy => by cases hy⟩

theorem Pos.down {G : Gh} {over : Option Nat} {root : Nat} {id : Nat → Int} {v : Int} {l x t c : Nat} {pl ql : List Nat} (h : Shape G over root) (hl : l < G.D) (hp : Pos G id v (l + 1) x pl ql) (ha : (G.K x).Pairwise (fun x y => id (G.F x) < id (G.F y)))
    (hlo : ∀ i k, i < t → (G.K x)[i]? = some k → id (G.F k) < v) (hhi : ∀ i k, t ≤ i → (G.K x)[i]? = some k → v < id (G.F k)) (hc : (G.K x)[t - 1]? = some c) :
    Pos G id v l c (pl.flatMap G.K ++ (G.K x).take (t - 1)) ((G.K x).drop (t - 1 + 1) ++ ql.flatMap G.K) := by
  have hxm := hp.mem
  have hcl : t - 1 < (G.K x).length := (List.getElem?_eq_some_iff.1 hc).1
  refine ⟨?_, ?_, fun y hy => ?_⟩
  · rw [← h.chain l hl, hp.eq, List.flatMap_append, List.flatMap_cons]
    have : G.K x = (G.K x).take (t - 1) ++ c :: (G.K x).drop (t - 1 + 1) := by
      have e := List.getElem_cons_drop hcl
      rw [(List.getElem?_eq_some_iff.1 hc).2] at e
      rw [e, List.take_append_drop]
    conv => lhs; rw [this]
    simp
  · by_cases e : t = 0
    · subst e
      right
      obtain ⟨_, _, k, hk, e2⟩ := h.inner l hl x hxm
      have hck : c = k := by rw [List.head?_eq_getElem?] at hk; rw [Nat.zero_sub, hk] at hc; exact (Option.some.inj hc).symm
      have := hhi 0 c (Nat.le_refl _) hc
      rcases hp.lo with h1 | h1
      · rw [e2, ← hck] at h1; omega
      · subst h1; simp
    · left; exact hlo (t - 1) c (by omega) hc
  · by_cases e : t - 1 + 1 < (G.K x).length
    · have hd : (G.K x).drop (t - 1 + 1) = (G.K x)[t - 1 + 1] :: (G.K x).drop (t - 1 + 1 + 1) := (List.getElem_cons_drop ..).symm
      rw [hd] at hy
      obtain rfl := Option.some.inj hy
      by_cases e0 : t = 0
      · subst e0
        have h0 := hhi 0 c (Nat.le_refl _) hc
        have := List.pairwise_iff_getElem.1 ha 0 1 (by omega) (by omega) (by omega)
        have e2 : (G.K x)[0] = c := (List.getElem?_eq_some_iff.1 hc).2
        rw [e2] at this
        simp only [Nat.zero_sub, Nat.zero_add]
        omega
      · exact hhi (t - 1 + 1) _ (by omega) (List.getElem?_eq_getElem _)
    · rw [List.drop_of_length_le (by omega), List.nil_append] at hy
      cases hq : ql with
      | nil => rw [hq] at hy; cases hy
      | cons z zs =>
        have hzm : z ∈ G.L (l + 1) := by rw [hp.eq, hq]; simp
        obtain ⟨_, _, k, hk, e2⟩ := h.inner l hl z hzm
        rw [hq, List.flatMap_cons, List.head?_append, hk] at hy
        obtain rfl : k = y := by simpa using hy
        rw [← e2]
        exact hp.hi z (by rw [hq]; rfl)

theorem put_flat {G : Gh} {over : Option Nat} {root : Nat} {id : Nat → Int} {v : Int} {b i j : Nat} {pl ql : List Nat} (h : Shape G over root) (hp : Pos G id v 0 b pl ql) : (G.put b i j).flat = pl.flatMap G.J ++ insAt (G.J b) i j ++ ql.flatMap G.J := by
  have hnd := h.nd 0 (by omega)
  rw [hp.eq, List.nodup_append] at hnd
  obtain ⟨_, n2, n3⟩ := hnd
  have hbp : ∀ x ∈ pl, x ≠ b := fun x hx => n3 x hx b (by simp)
  have hbq : ∀ x ∈ ql, x ≠ b := fun x hx e => (List.nodup_cons.1 n2).1 (e ▸ hx)
  show ((G.L 0).flatMap _) = _
  rw [hp.eq, List.flatMap_append, List.flatMap_cons, List.append_assoc]
  congr 1
  · exact flatMap_cong (fun x hx => if_neg (hbp x hx))
  · congr 1
    · exact if_pos rfl
    · exact flatMap_cong (fun x hx => if_neg (hbq x hx))

theorem put_sorted {G : Gh} {over : Option Nat} {root : Nat} {id : Nat → Int} {b i j : Nat} {pl ql : List Nat} (h : Shape G over root) (hs : G.flat.Pairwise (fun a b => id a < id b)) (hp : Pos G id (id j) 0 b pl ql) (hi : i ≤ (G.J b).length)
    (hlo : ∀ t k, t < i → (G.J b)[t]? = some k → id k < id j) (hhi : ∀ t k, i ≤ t → (G.J b)[t]? = some k → id j < id k) : (G.put b i j).flat.Pairwise (fun a b => id a < id b) := by
  rw [put_flat h hp]
  have hs0 := hs
  unfold Gh.flat at hs0
  rw [hp.eq, List.flatMap_append, List.flatMap_cons, List.pairwise_append, List.pairwise_append] at hs0
  obtain ⟨s1, ⟨s2, s3, s4⟩, s5⟩ := hs0
  have hbF := List.mem_of_mem_head? (h.leaf b hp.mem).2.2
  have plo : ∀ a ∈ pl.flatMap G.J, id a < id j := fun a ha => by
    rcases hp.lo with h1 | h1
    · have := s5 a ha (G.F b) (List.mem_append_left _ hbF); omega
    · subst h1; cases ha
  have qhi : ∀ a ∈ ql.flatMap G.J, id j < id a := fun a ha => by
    cases hq : ql with
    | nil => rw [hq] at ha; cases ha
    | cons z zs =>
      have h1 := hp.hi z (by rw [hq]; rfl)
      have hzm : z ∈ G.L 0 := by rw [hp.eq, hq]; simp
      have hz := (h.leaf z hzm).2.2
      rw [hq, List.flatMap_cons] at ha s3
      cases hJ : G.J z with
      | nil => rw [hJ] at hz; cases hz
      | cons f fs =>
        rw [hJ] at hz ha s3
        obtain rfl : f = G.F z := Option.some.inj hz
        rcases List.mem_cons.1 ha with rfl | ha
        · exact h1
        · have := (List.pairwise_cons.1 s3).1 a ha; omega
  have jlo : ∀ a ∈ (G.J b).take i, id a < id j := fun a ha => by
    obtain ⟨t, ht, e⟩ := List.getElem_of_mem ha
    rw [List.getElem_take] at e
    rw [List.length_take] at ht
    exact hlo t a (by omega) (by rw [← e]; exact List.getElem?_eq_getElem _)
  have jhi : ∀ a ∈ (G.J b).drop i, id j < id a := fun a ha => by
    obtain ⟨t, ht, e⟩ := List.getElem_of_mem ha
    rw [List.getElem_drop] at e
    exact hhi (i + t) a (by omega) (by rw [← e]; exact List.getElem?_eq_getElem _)
  rw [List.append_assoc, List.pairwise_append, List.pairwise_append]
  have mem_ins : ∀ a, a ∈ insAt (G.J b) i j → a = j ∨ a ∈ G.J b := fun a ha => by
    unfold insAt at ha
    rcases List.mem_append.1 ha with h1 | h1
    · exact Or.inr (List.mem_of_mem_take h1)
    · rcases List.mem_cons.1 h1 with h1 | h1
      · exact Or.inl h1
      · exact Or.inr (List.mem_of_mem_drop h1)
  refine ⟨s1, ⟨?_, s3, fun a ha c hc => ?_⟩, fun a ha c hc => ?_⟩
  · unfold insAt
    rw [List.pairwise_append, List.pairwise_cons]
    have s2' := s2
    rw [← List.take_append_drop i (G.J b), List.pairwise_append] at s2'
    refine ⟨s2'.1, ⟨jhi, s2'.2.1⟩, fun a ha c hc => ?_⟩
    rcases List.mem_cons.1 hc with rfl | hc
    · exact jlo a ha
    · exact s2'.2.2 a ha c hc
  · rcases mem_ins a ha with rfl | ha
    · exact qhi c hc
    · exact s4 a ha c hc
  · rcases List.mem_append.1 hc with hc | hc
    · rcases mem_ins c hc with rfl | hc
      · exact plo a ha
      · exact s5 a ha c (List.mem_append_left _ hc)
    · exact s5 a ha c (List.mem_append_right _ hc)

theorem put_mem {G : Gh} {over : Option Nat} {root : Nat} {id : Nat → Int} {v : Int} {b i j : Nat} {pl ql : List Nat} (h : Shape G over root) (hp : Pos G id v 0 b pl ql) (a : Nat) : a ∈ (G.put b i j).flat ↔ a = j ∨ a ∈ G.flat := by
  rw [put_flat h hp]
  have : G.flat = pl.flatMap G.J ++ G.J b ++ ql.flatMap G.J := by unfold Gh.flat; rw [hp.eq, List.flatMap_append, List.flatMap_cons, List.append_assoc]
  rw [this]
  have hi : a ∈ insAt (G.J b) i j ↔ a = j ∨ a ∈ G.J b := by
    conv => rhs; rw [← List.take_append_drop i (G.J b)]
    unfold insAt
    simp only [List.mem_append, List.mem_cons]
    constructor
    · rintro (h | h | h) <;> simp [h]
    · rintro (h | h | h) <;> simp [h]
  simp only [List.mem_append, hi]
  constructor
  · rintro ((h | h | h) | h) <;> simp [h]
  · rintro (h | (h | h) | h) <;> simp [h]

/-- Where j comes first, its leaf bears the queue's first job. -/
theorem Pos.first {G : Gh} {over : Option Nat} {root : Nat} {id : Nat → Int} {v : Int} {b : Nat} {pl ql : List Nat} (h : Shape G over root) (hp : Pos G id v 0 b pl ql) (h0 : ¬ id (G.F b) < v) : G.F b = G.F root := by
  rcases hp.lo with h1 | h1
  · exact absurd h1 h0
  · obtain ⟨x, hx, hF⟩ := h.heads G.D 0 (by omega)
    rw [hp.eq, h1] at hx
    obtain rfl : b = x := Option.some.inj hx
    exact hF
end Go.Proofs.YbulkdxqmGreatFmt
