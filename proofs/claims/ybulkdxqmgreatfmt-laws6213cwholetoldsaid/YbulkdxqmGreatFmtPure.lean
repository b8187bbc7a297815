/- LawS6213CWhole: the shape of a queue's tree, with no Go in sight. -/
import Derived.Test.YbulkdxqmGreatFmtRows
namespace Go.Proofs.YbulkdxqmGreatFmt
set_option linter.unusedVariables false

/-- c put behind b wherever b stands. -/
def rep (b c : Nat) (xs : List Nat) : List Nat := xs.flatMap fun x => if x = b then [b, c] else [x]

theorem rep_nil (b c : Nat) : rep b c [] = [] := rfl
theorem rep_cons (b c x : Nat) (xs : List Nat) : rep b c (x :: xs) = (if x = b then [b, c] else [x]) ++ rep b c xs := by simp [rep]
theorem rep_append (b c : Nat) (xs ys : List Nat) : rep b c (xs ++ ys) = rep b c xs ++ rep b c ys := by simp [rep]
theorem mem_rep (b c x : Nat) (xs : List Nat) : x ∈ rep b c xs ↔ x ∈ xs ∨ (x = c ∧ b ∈ xs) := by
  induction xs with
  | nil => simp [rep]
  | cons y ys ih =>
    rw [rep_cons, List.mem_append, ih]
    by_cases h : y = b
    · subst h; simp; constructor
      · rintro ((rfl | rfl) | h | ⟨rfl, h⟩) <;> simp_all
      · rintro ((rfl | h) | h)
        · simp
        · simp [h]
        · simp [h]
    · simp [h]
      have : ¬ b = y := fun e => h e.symm
      simp [this, or_assoc]
theorem rep_id (b c : Nat) (xs : List Nat) (h : b ∉ xs) : rep b c xs = xs := by
  induction xs with
  | nil => rfl
  | cons y ys ih =>
    rw [rep_cons, ih (fun e => h (by simp [e])), if_neg (fun e => h (by simp [e]))]; rfl
theorem rep_flatMap (b c : Nat) (xs : List Nat) (K : Nat → List Nat) : rep b c (xs.flatMap K) = xs.flatMap fun x => rep b c (K x) := by
  induction xs with
  | nil => rfl
  | cons y ys ih => simp only [List.flatMap_cons, rep_append, ih]
theorem rep_nodup (b c : Nat) (xs : List Nat) (h : xs.Nodup) (hc : c ∉ xs) : (rep b c xs).Nodup := by
  induction xs with
  | nil => simp [rep]
  | cons y ys ih =>
    rw [rep_cons]
    have h1 : y ∉ ys := (List.nodup_cons.1 h).1
    have h2 := ih (List.nodup_cons.1 h).2 (fun e => hc (by simp [e]))
    have hcy : c ≠ y := fun e => hc (by simp [e])
    have hcys : c ∉ ys := fun e => hc (by simp [e])
    by_cases e : y = b
    · subst e
      rw [if_pos rfl, rep_id y c ys h1]
      simp only [List.cons_append, List.nil_append, List.nodup_cons, List.mem_cons]
      refine ⟨?_, hcys, (List.nodup_cons.1 h).2⟩
      rintro (e | e)
      · exact hcy e.symm
      · exact h1 e
    · rw [if_neg e]
      simp only [List.cons_append, List.nil_append, List.nodup_cons]
      refine ⟨?_, h2⟩
      rw [mem_rep]
      rintro (e2 | ⟨e2, _⟩)
      · exact h1 e2
      · exact hcy e2.symm
theorem rep_length (b c : Nat) (xs : List Nat) (h : xs.Nodup) : (rep b c xs).length = xs.length + if b ∈ xs then 1 else 0 := by
  induction xs with
  | nil => rfl
  | cons y ys ih =>
    rw [rep_cons, List.length_append, ih (List.nodup_cons.1 h).2]
    have h1 : y ∉ ys := (List.nodup_cons.1 h).1
    by_cases e : y = b
    · subst e; simp [h1]; omega
    · have : ¬ b = y := fun e2 => e e2.symm
      by_cases hb : b ∈ ys <;> simp [e, this, hb] <;> omega
theorem rep_head (b c : Nat) (xs : List Nat) : (rep b c xs).head? = xs.head? := by
  cases xs with
  | nil => rfl
  | cons y ys =>
    rw [rep_cons]
    by_cases e : y = b <;> simp [e]
theorem rep_at (b c : Nat) (pre post : List Nat) (h1 : b ∉ pre) (h2 : b ∉ post) : rep b c (pre ++ b :: post) = pre ++ b :: c :: post := by
  rw [rep_append, rep_cons, rep_id b c pre h1, rep_id b c post h2, if_pos rfl]; simp
theorem flatMap_rep (b c : Nat) (xs : List Nat) (f g : Nat → List Nat) (h : ∀ x ∈ xs, x ≠ b → g x = f x) (hb : g b ++ g c = f b) : (rep b c xs).flatMap g = xs.flatMap f := by
  induction xs with
  | nil => rfl
  | cons y ys ih =>
    rw [rep_cons, List.flatMap_append, List.flatMap_cons, ih (fun x hx => h x (by simp [hx]))]
    by_cases e : y = b
    · subst e; simp [← hb]
    · simp [e, h y (by simp) e]

theorem flatMap_cong {xs : List Nat} {f g : Nat → List Nat} (h : ∀ x ∈ xs, f x = g x) : xs.flatMap f = xs.flatMap g := by
  induction xs with
  | nil => rfl
  | cons y ys ih => rw [List.flatMap_cons, List.flatMap_cons, h y (by simp), ih (fun x hx => h x (by simp [hx]))]
theorem nodup_part {xs : List Nat} {f : Nat → List Nat} (h : (xs.flatMap f).Nodup) (x : Nat) (hx : x ∈ xs) : (f x).Nodup := by
  induction xs with
  | nil => cases hx
  | cons y ys ih =>
    rw [List.flatMap_cons, List.nodup_append] at h
    rcases List.mem_cons.1 hx with rfl | hx
    · exact h.1
    · exact ih h.2.1 hx

/-- A queue's tree: its levels, each node's kids or jobs, the block above, the first job, and which blocks its arrays are. -/
structure Gh where
  D : Nat
  L : Nat → List Nat
  K : Nat → List Nat
  J : Nat → List Nat
  U : Nat → Option Nat
  F : Nat → Nat
  A : Nat → Nat
  S : Nat → Nat
  C : Nat → Nat
  R : Nat → Option (Nat × Nat)

/-- One more where the node is the one that is to be split. -/
def ov (over : Option Nat) (b : Nat) : Nat := if over = some b then 1 else 0

structure Shape (G : Gh) (over : Option Nat) (root : Nat) : Prop where
  top : G.L G.D = [root]
  chain : ∀ l, l < G.D → (G.L (l + 1)).flatMap G.K = G.L l
  nd : ∀ l, l ≤ G.D → (G.L l).Nodup
  lev : ∀ l l' b, l ≤ G.D → l' ≤ G.D → b ∈ G.L l → b ∈ G.L l' → l = l'
  up : ∀ l, l < G.D → ∀ b ∈ G.L (l + 1), ∀ k ∈ G.K b, G.U k = some b
  upr : G.U root = none
  leaf : ∀ b ∈ G.L 0, 0 < (G.J b).length ∧ (G.J b).length ≤ 16 + ov over b ∧ (G.J b).head? = some (G.F b)
  inner : ∀ l, l < G.D → ∀ b ∈ G.L (l + 1), 0 < (G.K b).length ∧ (G.K b).length ≤ 8 + ov over b ∧ ∃ k, (G.K b).head? = some k ∧ G.F b = G.F k
  own : ∀ l, l ≤ G.D → ∀ b ∈ G.L l, G.R b = some (b, 0) ∧ G.R (G.A b) = some (b, 1) ∧ (l = 0 → G.R (G.S b) = some (b, 2))

/-- The jobs in order. -/
def Gh.flat (G : Gh) : List Nat := (G.L 0).flatMap G.J

/-- A root of one kid above the root. -/
def Gh.grown (G : Gh) (r root a c : Nat) : Gh :=
  { G with
    D := G.D + 1
    L := fun l => if l = G.D + 1 then [r] else G.L l
    K := fun x => if x = r then [root] else G.K x
    U := fun x => if x = root then some r else if x = r then none else G.U x
    F := fun x => if x = r then G.F root else G.F x
    A := fun x => if x = r then a else G.A x
    C := fun x => if x = r then c else G.C x
    R := fun x => if x = r then some (r, 0) else if x = a then some (r, 1) else G.R x }

theorem Shape.grow {G : Gh} {over : Option Nat} {root : Nat} (h : Shape G over root) (r a c : Nat) (hr : G.R r = none) (ha : G.R a = none) (hra : a ≠ r) : Shape (G.grown r root a c) over r := by
  have hroot : root ∈ G.L G.D := by rw [h.top]; simp
  have live : ∀ l, l ≤ G.D → ∀ b ∈ G.L l, b ≠ r ∧ b ≠ a ∧ G.A b ≠ r ∧ G.A b ≠ a ∧ (l = 0 → G.S b ≠ r ∧ G.S b ≠ a) := by
    intro l hl b hb
    obtain ⟨o1, o2, o3⟩ := h.own l hl b hb
    refine ⟨?_, ?_, ?_, ?_, fun e => ⟨?_, ?_⟩⟩
    · rintro rfl; rw [hr] at o1; cases o1
    · rintro rfl; rw [ha] at o1; cases o1
    · intro e; rw [e, hr] at o2; cases o2
    · intro e; rw [e, ha] at o2; cases o2
    · intro e2; have := o3 e; rw [e2, hr] at this; cases this
    · intro e2; have := o3 e; rw [e2, ha] at this; cases this
  have hL : ∀ l, l ≤ G.D → (G.grown r root a c).L l = G.L l := fun l hl => by simp [Gh.grown]; omega
  have hLt : (G.grown r root a c).L (G.D + 1) = [r] := by simp [Gh.grown]
  have hK : ∀ l, l ≤ G.D → ∀ b ∈ G.L l, (G.grown r root a c).K b = G.K b := fun l hl b hb => by simp [Gh.grown, (live l hl b hb).1]
  have hKr : (G.grown r root a c).K r = [root] := by simp [Gh.grown]
  have hF : ∀ l, l ≤ G.D → ∀ b ∈ G.L l, (G.grown r root a c).F b = G.F b := fun l hl b hb => by simp [Gh.grown, (live l hl b hb).1]
  have kid : ∀ l, l < G.D → ∀ b ∈ G.L (l + 1), ∀ k ∈ G.K b, k ∈ G.L l := fun l hl b hb k hk => by rw [← h.chain l hl]; exact List.mem_flatMap.2 ⟨b, hb, hk⟩
  have rr : root ≠ r := (live G.D (Nat.le_refl _) root hroot).1
  refine ⟨hLt, fun l hl => ?_, fun l hl => ?_, fun l l' b h1 h2 h3 h4 => ?_, fun l hl b hb k hk => ?_, ?_, fun b hb => ?_, fun l hl b hb => ?_, fun l hl b hb => ?_⟩
  · have hl' : l ≤ G.D := by have : l < G.D + 1 := hl; omega
    by_cases e : l = G.D
    · subst e
      rw [hLt, hL _ (Nat.le_refl _), h.top]; simp [hKr]
    · rw [hL (l + 1) (by omega), hL l hl', ← h.chain l (by omega)]
      exact flatMap_cong (fun b hb => hK (l + 1) (by omega) b hb)
  · have hl' : l ≤ G.D + 1 := hl
    by_cases e : l = G.D + 1
    · subst e; rw [hLt]; simp
    · rw [hL l (by omega)]; exact h.nd l (by omega)
  · have h1' : l ≤ G.D + 1 := h1
    have h2' : l' ≤ G.D + 1 := h2
    by_cases e : l = G.D + 1
    · subst e
      rw [hLt] at h3
      have hbr : b = r := by simpa using h3
      by_cases e' : l' = G.D + 1
      · exact e'.symm
      · rw [hL l' (by omega)] at h4
        exact absurd hbr (live l' (by omega) b h4).1
    · rw [hL l (by omega)] at h3
      by_cases e' : l' = G.D + 1
      · subst e'
        rw [hLt] at h4
        exact absurd (by simpa using h4) (live l (by omega) b h3).1
      · rw [hL l' (by omega)] at h4
        exact h.lev l l' b (by omega) (by omega) h3 h4
  · have hl' : l < G.D + 1 := hl
    by_cases e : l = G.D
    · subst e
      rw [hLt] at hb
      obtain rfl : b = r := by simpa using hb
      rw [hKr] at hk
      obtain rfl : k = root := by simpa using hk
      simp [Gh.grown]
    · rw [hL (l + 1) (by omega)] at hb
      rw [hK (l + 1) (by omega) b hb] at hk
      have hkl := kid l (by omega) b hb k hk
      have hkr : k ≠ root := by
        rintro rfl
        have := h.lev l G.D k (by omega) (Nat.le_refl _) hkl hroot
        omega
      have := h.up l (by omega) b hb k hk
      simp [Gh.grown, hkr, (live l (by omega) k hkl).1, this]
  · simp [Gh.grown, rr.symm]
  · rw [hL 0 (by omega)] at hb
    have := h.leaf b hb
    rw [hF 0 (by omega) b hb]
    exact this
  · have hl' : l < G.D + 1 := hl
    by_cases e : l = G.D
    · subst e
      rw [hLt] at hb
      obtain rfl : b = r := by simpa using hb
      refine ⟨by rw [hKr]; simp, by rw [hKr]; simp; omega, root, by rw [hKr]; rfl, ?_⟩
      rw [hF G.D (Nat.le_refl _) root hroot]; simp [Gh.grown]
    · rw [hL (l + 1) (by omega)] at hb
      obtain ⟨i1, i2, k, i3, i4⟩ := h.inner l (by omega) b hb
      have hkl := kid l (by omega) b hb k (List.mem_of_mem_head? i3)
      rw [hK (l + 1) (by omega) b hb]
      exact ⟨i1, i2, k, i3, by rw [hF (l + 1) (by omega) b hb, hF l (by omega) k hkl]; exact i4⟩
  · have hl' : l ≤ G.D + 1 := hl
    by_cases e : l = G.D + 1
    · subst e
      rw [hLt] at hb
      obtain rfl : b = r := by simpa using hb
      refine ⟨by simp [Gh.grown], ?_, fun e => by omega⟩
      simp [Gh.grown, hra]
    · rw [hL l (by omega)] at hb
      obtain ⟨o1, o2, o3⟩ := h.own l (by omega) b hb
      obtain ⟨q1, q2, q3, q4, q5⟩ := live l (by omega) b hb
      refine ⟨by simp [Gh.grown, q1, q2, o1], by simp [Gh.grown, q1, q3, q4, o2], fun e => ?_⟩
      have := q5 e
      simp [Gh.grown, this.1, this.2, o3 e]

theorem grown_flat (G : Gh) (r root a c : Nat) : (G.grown r root a c).flat = G.flat := by
  simp [Gh.flat, Gh.grown]

/-- b parted in two, c behind it. -/
def Gh.cut (G : Gh) (l b c fc a s cc : Nat) (KX KY JX JY : List Nat) : Gh :=
  { G with
    L := fun t => if t = l then rep b c (G.L l) else G.L t
    K := fun x => if x = b then KX else if x = c then KY else rep b c (G.K x)
    J := fun x => if x = b then JX else if x = c then JY else G.J x
    U := fun x => if x = c then G.U b else if x ∈ KY then some c else G.U x
    F := fun x => if x = c then fc else G.F x
    A := fun x => if x = c then a else G.A x
    S := fun x => if x = c then s else G.S x
    C := fun x => if x = c then cc else G.C x
    R := fun x => if x = c then some (c, 0) else if x = a then some (c, 1) else if x = s then some (c, 2) else G.R x }

theorem Shape.kid {G : Gh} {over : Option Nat} {root : Nat} (h : Shape G over root) (l : Nat) (hl : l < G.D) (b k : Nat) (hb : b ∈ G.L (l + 1)) (hk : k ∈ G.K b) : k ∈ G.L l := by
  rw [← h.chain l hl]; exact List.mem_flatMap.2 ⟨b, hb, hk⟩
theorem Shape.fresh {G : Gh} {over : Option Nat} {root : Nat} (h : Shape G over root) (x : Nat) (hx : G.R x = none) (l : Nat) (hl : l ≤ G.D) (b : Nat) (hb : b ∈ G.L l) : b ≠ x ∧ G.A b ≠ x ∧ (l = 0 → G.S b ≠ x) := by
  obtain ⟨o1, o2, o3⟩ := h.own l hl b hb
  refine ⟨?_, ?_, fun e => ?_⟩
  · rintro rfl; rw [hx] at o1; cases o1
  · intro e; rw [e, hx] at o2; cases o2
  · intro e2; have := o3 e; rw [e2, hx] at this; cases this

theorem Shape.part {G : Gh} {root l b c fc a s cc u : Nat} {KX KY JX JY : List Nat} (h : Shape G (some b) root) (hl : l < G.D) (hb : b ∈ G.L l) (hu : G.U b = some u) (hc : G.R c = none) (ha : G.R a = none) (hs : G.R s = none) (hac : a ≠ c) (hsc : s ≠ c)
    (hleaf : l = 0 → KY = [] ∧ JX ++ JY = G.J b ∧ (0 < JX.length ∧ JX.length ≤ 16) ∧ (0 < JY.length ∧ JY.length ≤ 16) ∧ JY.head? = some fc ∧ s ≠ a)
    (hin : ∀ t, l = t + 1 → KX ++ KY = G.K b ∧ (0 < KX.length ∧ KX.length ≤ 8) ∧ (0 < KY.length ∧ KY.length ≤ 8) ∧ ∃ k, KY.head? = some k ∧ fc = G.F k) :
    Shape (G.cut l b c fc a s cc KX KY JX JY) (if (rep b c (G.K u)).length = 9 then some u else none) root := by
  have fr := fun (t : Nat) (ht : t ≤ G.D) (x : Nat) (hx : x ∈ G.L t) => h.fresh c hc t ht x hx
  have fra := fun (t : Nat) (ht : t ≤ G.D) (x : Nat) (hx : x ∈ G.L t) => h.fresh a ha t ht x hx
  have frs := fun (t : Nat) (ht : t ≤ G.D) (x : Nat) (hx : x ∈ G.L t) => h.fresh s hs t ht x hx
  have lb : ∀ t, t ≤ G.D → b ∈ G.L t → t = l := fun t ht hbt => h.lev t l b ht (by omega) hbt hb
  have hbc : b ≠ c := (fr l (by omega) b hb).1
  have hcL : ∀ t, t ≤ G.D → c ∉ G.L t := fun t ht hx => (fr t ht c hx).1 rfl
  -- where the moved kids lie
  have hKY : ∀ k ∈ KY, ∃ t, l = t + 1 ∧ k ∈ G.K b ∧ k ∈ G.L t := by
    intro k hk
    cases l with
    | zero => rw [(hleaf rfl).1] at hk; cases hk
    | succ t =>
      have e := (hin t rfl).1
      have : k ∈ G.K b := by rw [← e]; exact List.mem_append_right _ hk
      exact ⟨t, rfl, this, h.kid t (by omega) b k hb this⟩
  have hL : ∀ t x, x ∈ (G.cut l b c fc a s cc KX KY JX JY).L t ↔ x ∈ G.L t ∨ (t = l ∧ x = c) := by
    intro t x
    by_cases e : t = l
    · subst e; simp [Gh.cut, mem_rep, hb]
    · simp [Gh.cut, e]
  have hKo : ∀ t, t < G.D → ∀ x ∈ G.L (t + 1), x ≠ b → (G.cut l b c fc a s cc KX KY JX JY).K x = rep b c (G.K x) := fun t ht x hx hxb => by
    simp [Gh.cut, hxb, (fr (t + 1) (by omega) x hx).1]
  have hKs : ∀ t, t < G.D → t ≠ l → ∀ x ∈ G.L (t + 1), x ≠ b → (G.cut l b c fc a s cc KX KY JX JY).K x = G.K x := fun t ht htl x hx hxb => by
    rw [hKo t ht x hx hxb, rep_id]
    intro hbx
    exact htl (lb t (by omega) (h.kid t ht x b hx hbx))
  have hFo : ∀ t, t ≤ G.D → ∀ x ∈ G.L t, (G.cut l b c fc a s cc KX KY JX JY).F x = G.F x := fun t ht x hx => by simp [Gh.cut, (fr t ht x hx).1]
  have hUo : ∀ t, t ≤ G.D → ∀ x ∈ G.L t, t + 1 ≠ l → (G.cut l b c fc a s cc KX KY JX JY).U x = G.U x := fun t ht x hx htl => by
    have h2 : x ∉ KY := fun hk => by
      obtain ⟨t', e1, _, e3⟩ := hKY x hk
      have := h.lev t t' x ht (by omega) hx e3
      omega
    simp [Gh.cut, (fr t ht x hx).1, h2]
  have nb : ∀ t, t ≤ G.D → t ≠ l → ∀ x ∈ G.L t, x ≠ b := fun t ht htl x hx e => htl (lb t ht (e ▸ hx))
  have hbu : ∀ x, x ∈ G.L (l + 1) → b ∈ G.K x → x = u := fun x hx hbx => by
    have := h.up l hl x hx b hbx
    rw [hu] at this
    exact (Option.some.inj this).symm
  refine ⟨?_, fun t ht => ?_, fun t ht => ?_, fun t t' x h1 h2 h3 h4 => ?_, fun t ht x hx k hk => ?_, ?_, fun x hx => ?_, fun t ht x hx => ?_, fun t ht x hx => ?_⟩
  · show (if G.D = l then _ else G.L G.D) = _
    rw [if_neg (by omega)]; exact h.top
  · have ht' : t < G.D := ht
    by_cases e : t + 1 = l
    · subst e
      have e2 : (G.cut (t + 1) b c fc a s cc KX KY JX JY).L t = G.L t := if_neg (by omega)
      have e1 : (G.cut (t + 1) b c fc a s cc KX KY JX JY).L (t + 1) = rep b c (G.L (t + 1)) := if_pos rfl
      rw [e1, e2, ← h.chain t ht']
      refine flatMap_rep b c _ _ _ (fun x hx hxb => hKs t ht' (by omega) x hx hxb) ?_
      have : (G.cut (t + 1) b c fc a s cc KX KY JX JY).K b = KX := if_pos rfl
      have h2 : (G.cut (t + 1) b c fc a s cc KX KY JX JY).K c = KY := by simp [Gh.cut, hbc.symm]
      rw [this, h2]; exact (hin t rfl).1
    · have e1 : (G.cut l b c fc a s cc KX KY JX JY).L (t + 1) = G.L (t + 1) := if_neg e
      rw [e1]
      by_cases e2 : t = l
      · subst e2
        have e3 : (G.cut t b c fc a s cc KX KY JX JY).L t = rep b c (G.L t) := if_pos rfl
        rw [e3, ← h.chain t ht', rep_flatMap]
        exact flatMap_cong (fun x hx => hKo t ht' x hx (nb (t + 1) (by omega) (by omega) x hx))
      · have e3 : (G.cut l b c fc a s cc KX KY JX JY).L t = G.L t := if_neg e2
        rw [e3, ← h.chain t ht']
        exact flatMap_cong (fun x hx => hKs t ht' e2 x hx (nb (t + 1) (by omega) e x hx))
  · have ht' : t ≤ G.D := ht
    by_cases e : t = l
    · subst e
      show (if t = t then rep b c (G.L t) else _).Nodup
      rw [if_pos rfl]
      exact rep_nodup b c _ (h.nd t ht') (hcL t ht')
    · show (if t = l then _ else G.L t).Nodup
      rw [if_neg e]; exact h.nd t ht'
  · have h1' : t ≤ G.D := h1
    have h2' : t' ≤ G.D := h2
    rw [hL] at h3 h4
    rcases h3 with h3 | ⟨rfl, rfl⟩
    · rcases h4 with h4 | ⟨rfl, rfl⟩
      · exact h.lev t t' x h1' h2' h3 h4
      · exact absurd h3 (hcL t h1')
    · rcases h4 with h4 | ⟨rfl, _⟩
      · exact absurd h4 (hcL t' h2')
      · rfl
  · have ht' : t < G.D := ht
    rw [hL] at hx
    by_cases e : t + 1 = l
    · subst e
      have e1 := (hin t rfl).1
      have ndK : (KX ++ KY).Nodup := by
        rw [e1]
        have := h.nd t (by omega)
        rw [← h.chain t ht'] at this
        exact nodup_part this b hb
      rcases hx with hx | ⟨_, rfl⟩
      · by_cases hxb : x = b
        · subst hxb
          have hk' : k ∈ KX := by
            have : (G.cut (t + 1) x c fc a s cc KX KY JX JY).K x = KX := if_pos rfl
            rwa [this] at hk
          have hkb : k ∈ G.K x := by rw [← e1]; exact List.mem_append_left _ hk'
          have hkl := h.kid t ht' x k hx hkb
          have hky : k ∉ KY := fun hk2 => (List.nodup_append.1 ndK).2.2 k hk' k hk2 rfl
          have := h.up t ht' x hx k hkb
          simp [Gh.cut, (fr t (by omega) k hkl).1, hky, this]
        · rw [hKs t ht' (by omega) x hx hxb] at hk
          have hkl := h.kid t ht' x k hx hk
          have hux := h.up t ht' x hx k hk
          have hky : k ∉ KY := fun hk2 => by
            obtain ⟨t', e2, e3, _⟩ := hKY k hk2
            have := h.up t ht' b hb k e3
            rw [hux] at this
            exact hxb (Option.some.inj this)
          simp [Gh.cut, (fr t (by omega) k hkl).1, hky, hux]
      · have hk' : k ∈ KY := by
          have h2 : (G.cut (t + 1) b x fc a s cc KX KY JX JY).K x = KY := by simp [Gh.cut, hbc.symm]
          rwa [h2] at hk
        obtain ⟨t', e2, _, e4⟩ := hKY k hk'
        have : k ≠ x := (fr t' (by omega) k e4).1
        simp [Gh.cut, this, hk']
    · rcases hx with hx | ⟨e2, _⟩
      · have hxb := nb (t + 1) (by omega) e x hx
        by_cases e2 : t = l
        · subst e2
          rw [hKo t ht' x hx hxb, mem_rep] at hk
          rcases hk with hk | ⟨rfl, hbx⟩
          · have hkl := h.kid t ht' x k hx hk
            rw [hUo t (by omega) k hkl (by omega)]
            exact h.up t ht' x hx k hk
          · show (if k = k then G.U b else _) = _
            rw [if_pos rfl]
            exact h.up t ht' x hx b hbx
        · rw [hKs t ht' e2 x hx hxb] at hk
          have hkl := h.kid t ht' x k hx hk
          rw [hUo t (by omega) k hkl e]
          exact h.up t ht' x hx k hk
      · exact absurd e2 e
  · have hr : root ∈ G.L G.D := by rw [h.top]; simp
    rw [hUo G.D (Nat.le_refl _) root hr (by omega)]
    exact h.upr
  · rw [hL] at hx
    have lim : ∀ y ∈ G.L 0, y ≠ b → 0 < (G.J y).length ∧ (G.J y).length ≤ 16 ∧ (G.J y).head? = some (G.F y) := fun y hy hyb => by
      have := h.leaf y hy
      have e : ov (some b) y = 0 := by unfold ov; rw [if_neg (by intro e; exact hyb (Option.some.inj e).symm)]
      rw [e] at this
      exact this
    by_cases hxb : x = b
    · subst hxb
      have l0 : l = 0 := (lb 0 (by omega) (by rcases hx with hx | ⟨_, e⟩; exact hx; exact absurd e hbc)).symm
      obtain ⟨_, q1, q2, q3, q4, _⟩ := hleaf l0
      have e1 : (G.cut l x c fc a s cc KX KY JX JY).J x = JX := if_pos rfl
      rw [e1, hFo l (by omega) x hb]
      refine ⟨q2.1, by omega, ?_⟩
      have := (h.leaf x (l0 ▸ hb)).2.2
      rw [← q1] at this
      rw [← this, List.head?_append]
      cases JX with
      | nil => simp at q2
      | cons y ys => rfl
    · rcases hx with hx | ⟨e0, rfl⟩
      · have hxc := (fr 0 (by omega) x hx).1
        obtain ⟨q1, q2, q3⟩ := lim x hx hxb
        have e1 : (G.cut l b c fc a s cc KX KY JX JY).J x = G.J x := by simp [Gh.cut, hxb, hxc]
        rw [e1, hFo 0 (by omega) x hx]
        exact ⟨q1, by omega, q3⟩
      · obtain ⟨_, q1, q2, q3, q4, _⟩ := hleaf e0.symm
        have e1 : (G.cut l b x fc a s cc KX KY JX JY).J x = JY := by simp [Gh.cut, hbc.symm]
        have e2 : (G.cut l b x fc a s cc KX KY JX JY).F x = fc := if_pos rfl
        rw [e1, e2]
        exact ⟨q3.1, by omega, q4⟩
  · have ht' : t < G.D := ht
    rw [hL] at hx
    by_cases hxb : x = b
    · subst hxb
      have htl : t + 1 = l := lb (t + 1) (by omega) (by rcases hx with hx | ⟨_, e⟩; exact hx; exact absurd e hbc)
      obtain ⟨q1, q2, q3, q4⟩ := hin t htl.symm
      have e1 : (G.cut l x c fc a s cc KX KY JX JY).K x = KX := if_pos rfl
      rw [e1]
      obtain ⟨_, _, k, i3, i4⟩ := h.inner t ht' x (htl ▸ hb)
      have hkl := h.kid t ht' x k (htl ▸ hb) (List.mem_of_mem_head? i3)
      refine ⟨q2.1, by omega, k, ?_, by rw [hFo l (by omega) x hb, hFo t (by omega) k hkl]; exact i4⟩
      rw [← q1, List.head?_append] at i3
      cases KX with
      | nil => simp at q2
      | cons y ys => exact i3
    · rcases hx with hx | ⟨htl, rfl⟩
      · obtain ⟨i1, i2, k, i3, i4⟩ := h.inner t ht' x hx
        have e : ov (some b) x = 0 := by unfold ov; rw [if_neg (by intro e; exact hxb (Option.some.inj e).symm)]
        rw [e] at i2
        have hkl := h.kid t ht' x k hx (List.mem_of_mem_head? i3)
        have ndx : (G.K x).Nodup := by
          have := h.nd t (by omega)
          rw [← h.chain t ht'] at this
          exact nodup_part this x hx
        rw [hKo t ht' x hx hxb, rep_length b c _ ndx, rep_head]
        refine ⟨by omega, ?_, k, i3, by rw [hFo (t + 1) (by omega) x hx, hFo t (by omega) k hkl]; exact i4⟩
        by_cases hbx : b ∈ G.K x
        · have htl : t = l := lb t (by omega) (h.kid t ht' x b hx hbx)
          obtain rfl : x = u := hbu x (htl ▸ hx) hbx
          rw [if_pos hbx, rep_length b c _ ndx, if_pos hbx]
          unfold ov
          by_cases h9 : (G.K x).length + 1 = 9
          · simp [h9]
          · simp [h9]; omega
        · rw [if_neg hbx]; omega
      · obtain ⟨q1, q2, q3, k, q4, q5⟩ := hin t htl.symm
        have e1 : (G.cut l b x fc a s cc KX KY JX JY).K x = KY := by simp [Gh.cut, hbc.symm]
        have e2 : (G.cut l b x fc a s cc KX KY JX JY).F x = fc := if_pos rfl
        obtain ⟨t', e3, e4, e5⟩ := hKY k (List.mem_of_mem_head? q4)
        rw [e1, e2]
        exact ⟨q3.1, by omega, k, q4, by rw [hFo t' (by omega) k e5]; exact q5⟩
  · have ht' : t ≤ G.D := ht
    rw [hL] at hx
    rcases hx with hx | ⟨htl, rfl⟩
    · obtain ⟨o1, o2, o3⟩ := h.own t ht' x hx
      obtain ⟨f1, f2, f3⟩ := fr t ht' x hx
      obtain ⟨g1, g2, g3⟩ := fra t ht' x hx
      obtain ⟨k1, k2, k3⟩ := frs t ht' x hx
      refine ⟨by simp [Gh.cut, f1, g1, k1, o1], by simp [Gh.cut, f1, f2, g2, k2, o2], fun e => ?_⟩
      simp [Gh.cut, f1, f3 e, g3 e, k3 e, o3 e]
    · refine ⟨by simp [Gh.cut], by simp [Gh.cut, hac], fun e => ?_⟩
      have hsa := (hleaf (by omega)).2.2.2.2.2
      simp [Gh.cut, hsc, hsa]

theorem cut_flat {G : Gh} {over : Option Nat} {root l b c fc a s cc : Nat} {KX KY JX JY : List Nat} (h : Shape G over root) (hl : l ≤ G.D) (hb : b ∈ G.L l) (hc : G.R c = none) (hJ : l = 0 → JX ++ JY = G.J b) : (G.cut l b c fc a s cc KX KY JX JY).flat = G.flat := by
  unfold Gh.flat
  have fr := fun (t : Nat) (ht : t ≤ G.D) (x : Nat) (hx : x ∈ G.L t) => h.fresh c hc t ht x hx
  by_cases e : l = 0
  · subst e
    have e1 : (G.cut 0 b c fc a s cc KX KY JX JY).L 0 = rep b c (G.L 0) := by simp [Gh.cut]
    rw [e1]
    refine flatMap_rep b c _ _ _ (fun x hx hxb => by simp [Gh.cut, hxb, (fr 0 (by omega) x hx).1]) ?_
    have hbc := (fr 0 (by omega) b hb).1
    have e2 : (G.cut 0 b c fc a s cc KX KY JX JY).J b = JX := if_pos rfl
    have e3 : (G.cut 0 b c fc a s cc KX KY JX JY).J c = JY := by simp [Gh.cut, hbc.symm]
    rw [e2, e3]; exact hJ rfl
  · have e1 : (G.cut l b c fc a s cc KX KY JX JY).L 0 = G.L 0 := if_neg (fun e2 => e e2.symm)
    rw [e1]
    refine flatMap_cong (fun x hx => ?_)
    have hxb : x ≠ b := by
      rintro rfl
      exact e (h.lev l 0 x hl (by omega) hb hx)
    simp [Gh.cut, hxb, (fr 0 (by omega) x hx).1]

/-- u's kids in another row. -/
def Gh.moved (G : Gh) (u g c : Nat) : Gh :=
  { G with
    A := fun x => if x = u then g else G.A x
    C := fun x => if x = u then c else G.C x
    R := fun x => if x = g then some (u, 1) else G.R x }
theorem Shape.move {G : Gh} {over : Option Nat} {root : Nat} (h : Shape G over root) (u g c l : Nat) (hl : l < G.D) (hu : u ∈ G.L (l + 1)) (hg : G.R g = none ∨ g = G.A u) : Shape (G.moved u g c) over root := by
  have keep : ∀ x y, G.R x = some y → (x = g → y = (u, 1)) → (G.moved u g c).R x = some y := fun x y hx hxy => by
    by_cases e : x = g
    · simp [Gh.moved, e, hxy e]
    · simp [Gh.moved, e, hx]
  have hAu := (h.own (l + 1) (by omega) u hu).2.1
  have same : ∀ x y, G.R x = some y → x = g → y = (u, 1) := fun x y hx e => by
    subst e
    rcases hg with h0 | h0
    · rw [h0] at hx; cases hx
    · rw [h0, hAu] at hx; exact (Option.some.inj hx).symm
  refine ⟨h.top, h.chain, h.nd, h.lev, h.up, h.upr, h.leaf, h.inner, fun t ht x hx => ?_⟩
  obtain ⟨o1, o2, o3⟩ := h.own t ht x hx
  refine ⟨keep _ _ o1 (same _ _ o1), ?_, fun e => keep _ _ (o3 e) (same _ _ (o3 e))⟩
  by_cases e : x = u
  · subst e
    have : (G.moved x g c).A x = g := if_pos rfl
    rw [this]
    simp [Gh.moved]
  · have : (G.moved u g c).A x = G.A x := if_neg e
    rw [this]
    exact keep _ _ o2 (same _ _ o2)
theorem moved_flat (G : Gh) (u g c : Nat) : (G.moved u g c).flat = G.flat := rfl
end Go.Proofs.YbulkdxqmGreatFmt
