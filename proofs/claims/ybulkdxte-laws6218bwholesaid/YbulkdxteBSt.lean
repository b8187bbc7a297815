/- LawS6218BWhole: what the law's function carries from step to step. -/
import Derived.Test.YbulkdxteBPop
import Derived.Laws.CopyOwn
namespace Go.Proofs.Ybulkdxte
set_option linter.unusedVariables false
open Go.RowKit

/-- Row j of an argument of uint32s. -/
def U32s (w : World) (a : Option Addr) (l : Nat) (P : Nat → Int) : Prop := ∀ j, j < l → ∃ ab ao, a = some ⟨ab, ao, none⟩ ∧ ab < w.heap.size ∧ w.cell? ⟨ab, ao + j, none⟩ = some (.int .u32 (P j)) ∧ 0 ≤ P j ∧ P j < 4294967296
/-- Row j of an argument of bools. -/
def Bools (w : World) (a : Option Addr) (l : Nat) (P : Nat → Bool) : Prop := ∀ j, j < l → ∃ ab ao, a = some ⟨ab, ao, none⟩ ∧ ab < w.heap.size ∧ w.cell? ⟨ab, ao + j, none⟩ = some (.bool (P j))
theorem Bools.next {w w' : World} {a : Option Addr} {l : Nat} {P : Nat → Bool} (h : Bools w a l P) (hb : Below w.heap.size w w') : Bools w' a l P := fun j hj => by
  obtain ⟨ab, ao, e, hlt, hc⟩ := h j hj
  exact ⟨ab, ao, e, Nat.lt_of_lt_of_le hlt hb.size, (hb.cell (p := ⟨ab, ao + j, none⟩) hlt).trans hc⟩

/-- What the law lays: the first l numbers out of P, else out of Q, all below n. -/
def laidAt (P Q : Nat → Int) (l n j : Nat) : Nat := ((if j < l then P j else Q j) % (n : Int)).toNat
def laidF (P Q : Nat → Int) (l n i j : Nat) : Value := if j < i then .int .i32 (laidAt P Q l n j : Int) else .int .i32 0

theorem laid_lt (P Q : Nat → Int) (l n j : Nat) (hn : 0 < n) : laidAt P Q l n j < n := by
  unfold laidAt
  have h1 := Int.emod_nonneg (if j < l then P j else Q j) (b := (n : Int)) (by omega)
  have h2 := Int.emod_lt_of_pos (if j < l then P j else Q j) (b := (n : Int)) (by omega)
  omega
theorem laid_in (P Q : Nat → Int) (l n j : Nat) (hn : 0 < n) (hm : n ≤ 1048576) (h : j < l) : IntKind.i32.wrap (P j % (n : Int)) = (laidAt P Q l n j : Int) := by
  have h1 := Int.emod_nonneg (P j) (b := (n : Int)) (by omega)
  have h2 := Int.emod_lt_of_pos (P j) (b := (n : Int)) (by omega)
  rw [IntKind.wrap_i32]
  simp only [laidAt, if_pos h]
  omega
theorem laid_out (P Q : Nat → Int) (l n j : Nat) (hn : 0 < n) (hm : n ≤ 1048576) (h : ¬ j < l) : IntKind.i32.wrap (Q j % (n : Int)) = (laidAt P Q l n j : Int) := by
  have h1 := Int.emod_nonneg (Q j) (b := (n : Int)) (by omega)
  have h2 := Int.emod_lt_of_pos (Q j) (b := (n : Int)) (by omega)
  rw [IntKind.wrap_i32]
  simp only [laidAt, if_neg h]
  omega

theorem laidF_set (P Q : Nat → Int) (l n i j : Nat) : (if j = i then Value.int .i32 (laidAt P Q l n i : Int) else laidF P Q l n i j) = laidF P Q l n (i + 1) j := by
  unfold laidF
  by_cases e : j = i
  · subst e; simp
  · by_cases h : j < i
    · have : j < i + 1 := by omega
      simp [e, h, this]
    · have : ¬ j < i + 1 := by omega
      simp [e, h, this]

/-- A row of int32s being laid at block B; all below B stays. -/
structure StE (w wr : World) (B : Nat) (P Q : Nat → Int) (l n kk i : Nat) : Prop where
  row : wr.rowIs B 21 kk (laidF P Q l n i)
  sz : wr.heap.size = B + 1
  bel : Below B w wr
theorem StE.start (w : World) (B : Nat) (P Q : Nat → Int) (l n kk : Nat) (hB : B = w.heap.size) : StE w (w.alloc (.cells (madeCells #[.int .i32 0] kk) 21)) B P Q l n kk 0 := by
  subst hB
  exact ⟨(World.rowIs_made w (.int .i32 0) kk 21).congr (fun j _ => by simp [laidF]), by simp, (Below.refl _ _).alloc (Nat.le_refl _) _⟩
theorem StE.step {w wr : World} {B : Nat} {P Q : Nat → Int} {l n kk i : Nat} (h : StE w wr B P Q l n kk i) : StE w (wr.setCell ⟨B, i, none⟩ (.int .i32 (laidAt P Q l n i : Int))) B P Q l n kk (i + 1) :=
  ⟨(h.row.set i _).congr (fun j _ => laidF_set _ _ _ _ i j), by simpa using h.sz, h.bel.setCell (Nat.le_refl _) _⟩
theorem StE.done {w wr : World} {B : Nat} {P Q : Nat → Int} {l n kk : Nat} (h : StE w wr B P Q l n kk kk) : Row wr B kk (fun j => .int .i32 (laidAt P Q l n j : Int)) :=
  ⟨by have := h.sz; omega, fun j hj => by rw [h.row.cell hj]; simp [laidF, hj], fun j => h.row.frozen j⟩

/-- Edges at H, path at H + 1; all below H as it was. -/
structure Base (w wx : World) (H kk : Nat) (EF PF : Nat → Int) : Prop where
  e : Row wx H kk (fun j => .int .i32 (EF j))
  p : Row wx (H + 1) (kk + 1) (fun j => .int .i32 (PF j))
  bel : Below H w wx
theorem Base.next {w wx wy : World} {H kk B : Nat} {EF PF : Nat → Int} (h : Base w wx H kk EF PF) (hb : Below B wx wy) (hB : H + 2 ≤ B) : Base w wy H kk EF PF :=
  ⟨h.e.later hb.size (hb.block H (by omega)), h.p.later hb.size (hb.block (H + 1) (by omega)), h.bel.trans (hb.mono (by omega))⟩

/-- Marks, or none, between two numbers of blocks. -/
def Mk (wx : World) (lo hi : Nat) (vb : Option Nat) (n : Nat) (f : Nat → Bool) : Prop := ∀ b, vb = some b → lo ≤ b ∧ b < hi ∧ Row wx b n (fun j => .bool (f j))
theorem Mk.next {wx wy : World} {lo hi B n : Nat} {vb : Option Nat} {f : Nat → Bool} (h : Mk wx lo hi vb n f) (hb : Below B wx wy) (hB : hi ≤ B) : Mk wy lo hi vb n f := fun b e => by
  obtain ⟨h1, h2, h3⟩ := h b e
  exact ⟨h1, h2, h3.later hb.size (hb.block b (by omega))⟩
theorem Mk.none (wx : World) (lo hi n : Nat) (f : Nat → Bool) : Mk wx lo hi none n f := fun b e => by cases e
theorem Mk.of {wx : World} {lo hi b n : Nat} {f : Nat → Bool} (h1 : lo ≤ b) (h2 : b < hi) (h3 : Row wx b n (fun j => .bool (f j))) : Mk wx lo hi (some b) n f := fun b' e => by cases e; exact ⟨h1, h2, h3⟩

theorem clone7_any (xb : Option Nat) (n c : Nat) (f : Nat → Bool) (w : World) (hn : 0 < n) (hm : n ≤ 4194304) (lo hi : Nat) (h : Mk w lo hi xb n f) :
    Calls Yba.prog 7 #[sval xb n c] w fun e w' => ∃ yb cap, e = .returned (sval yb n cap) ∧ (xb.isSome = yb.isSome) ∧ Mk w' w.heap.size w'.heap.size yb n f ∧ Below w.heap.size w w' := by
  cases xb with
  | none =>
    refine (clone7_nil w).mono ?_
    rintro e w' ⟨rfl, rfl⟩
    exact ⟨none, 0, rfl, rfl, Mk.none _ _ _ _ _, Below.refl _ _⟩
  | some b =>
    refine (clone7 b n c f w hn hm (h b rfl).2.2).mono ?_
    rintro e w' ⟨g, cap, rfl, hg, hr, hb⟩
    exact ⟨some g, cap, rfl, rfl, Mk.of hg hr.lt hr, hb⟩

theorem same_any (xb yb : Option Nat) (n c c' : Nat) (f : Nat → Bool) (w : World) (hm : n ≤ 4194304) (hi : xb.isSome = yb.isSome) (hx : ∀ b, xb = some b → Row w b n (fun j => .bool (f j))) (hy : ∀ b, yb = some b → Row w b n (fun j => .bool (f j))) :
    Calls Yba.prog 10 #[sval xb n c, sval yb n c'] w fun e w' => e = .returned (.bool true) ∧ ∃ nq, w' = w.drewN nq := by
  cases xb with
  | none =>
    cases yb with
    | none => exact same_nil w
    | some b => cases hi
  | some a =>
    cases yb with
    | none => cases hi
    | some b => exact same_row a b n c c' f w hm (hx a rfl) (hy b rfl)

theorem sval_slice (xb : Option Nat) (n c : Nat) : ∃ a l q, sval xb n c = .slice a l q := by cases xb <;> exact ⟨_, _, _, rfl⟩
theorem neq_sval (w : World) (xb : Option Nat) (n c n' c' : Nat) : (binOp .neq 22 (sval xb n c) (.slice none n' c')).run Yba.prog w = .ok (.bool xb.isSome) w := by
  cases xb with
  | none => exact run_neq_slice_nil_any w 22 _ none 0 0 n' c' Yba.underlying22
  | some b => exact run_neq_slice_nil_any w 22 _ _ n c n' c' Yba.underlying22
theorem clr_true (f : Nat → Bool) (i : Nat) : clr f true i = f := by funext j; simp [clr]

/-- The marks that the law makes out of an argument. -/
def mkf (l : Nat) (P : Nat → Bool) (j : Nat) : Bool := if j < l then P j else false

theorem info4s : (Yba.prog.info? 4).map (·.size) = some 1 := by kernel_rfl

theorem run_copy_marks (wq : World) (n l c : Nat) (a : Option Addr) (P : Nat → Bool) (hl : l ≤ n) (h : Bools wq a l P) :
    ∃ W, (Builtin.copy_ #[22, 22] 3 #[.slice (some ⟨wq.heap.size, 0, none⟩) n n, .slice a l c]).run Yba.prog (wq.alloc (.cells (madeCells #[.bool false] n) 4)) = .ok (.int .i64 l) W ∧ Row W wq.heap.size n (fun j => .bool (mkf l P j)) ∧ Below wq.heap.size wq W ∧ W.heap.size = wq.heap.size + 1 := by
  have hlast := heap_alloc_last wq (.cells (madeCells #[Value.bool false] n) 4)
  have hsz : (madeCells #[Value.bool false] n).size = n := by simp [madeCells]
  have hbel : Below wq.heap.size wq (wq.alloc (.cells (madeCells #[.bool false] n) 4)) := (Below.refl _ _).alloc (Nat.le_refl _) _
  by_cases h0 : l = 0
  · subst h0
    refine ⟨_, ?_, ⟨?_, fun j hj => ?_, fun j => ?_⟩, hbel, by simp⟩
    · rw [run_copy_none (P := Yba.prog) _ 22 22 3 4 _ _ n n 0 c Yba.underlying22 info4s (by simp)]
      simp [goInt]
    · simp
    · rw [(World.rowIs_made wq (.bool false) n 4).cell hj]; simp [mkf]
    · exact frozen_of_row _ _ _ _ _ hlast
  · obtain ⟨ab, ao, rfl, hab, _⟩ := h 0 (by omega)
    have hadd : ∀ j, (⟨ab, ao, none⟩ : Addr).add j = ⟨ab, ao + j, none⟩ := fun j => by unfold Addr.add; split <;> simp_all
    obtain ⟨cs, hcs⟩ : ∃ cs : List Value, cs = (List.range l).map fun j => Value.bool (P j) := ⟨_, rfl⟩
    have hlen : cs.length = l := by rw [hcs]; simp
    have hat : ∀ j, j < l → cs[j]? = some (.bool (P j)) := fun j hj => by rw [hcs]; simp [hj]
    have hrun := run_copy_row (P := Yba.prog) (wq.alloc (.cells (madeCells #[.bool false] n) 4)) 22 22 3 4 wq.heap.size 0 n n ⟨ab, ao, none⟩ l c (madeCells #[.bool false] n) 4 cs Yba.underlying22 info4s hlast (by rw [hlen]; exact (Nat.min_eq_left hl).symm) (fun j v hj => by
        have hjl : j < l := by have := (List.getElem?_eq_some_iff.1 hj).1; omega
        rw [hat j hjl] at hj
        cases hj
        obtain ⟨_, _, e, hlt, hc⟩ := h j hjl
        cases e
        rw [hadd, World.cell?_of_block (Below.heap_alloc wq _ ab hab)]
        exact hc) (by rw [hlen, hsz]; omega) (by rw [hcs]; simp [Value.oneCell'])
    have hmade : (madeCells #[Value.bool false] n).toList = List.replicate n (.bool false) := by
      apply List.ext_getElem?
      intro j
      by_cases hj : j < n
      · have h1 := (World.rowIs_made wq (.bool false) n 4).cell hj
        rw [cell_of_row _ _ _ _ _ _ hlast] at h1
        simp [hj] at h1 ⊢
        exact h1
      · rw [List.getElem?_eq_none (by simp [madeCells]; omega), List.getElem?_eq_none (by simp; omega)]
    rw [World.setRow_alloc_new, hlen, hmade] at hrun
    obtain ⟨R, hR⟩ : ∃ R : Array Value, R = (List.take 0 (List.replicate n (Value.bool false)) ++ cs ++ List.drop (0 + l) (List.replicate n (Value.bool false))).toArray := ⟨_, rfl⟩
    rw [← hR] at hrun
    have hl2 := heap_alloc_last wq (.cells R 4)
    refine ⟨_, hrun.trans (by simp [goInt]; rfl), ⟨?_, fun j hj => ?_, fun j => ?_⟩, (Below.refl _ _).alloc (Nat.le_refl _) _, by simp⟩
    · simp
    · rw [cell_of_row _ _ _ _ _ _ hl2, hR]
      by_cases hjl : j < l
      · rw [List.getElem?_toArray, List.take_zero, List.nil_append, List.getElem?_append_left (by omega), hat j hjl]
        simp [mkf, hjl]
      · rw [List.getElem?_toArray, List.take_zero, List.nil_append, List.getElem?_append_right (by omega), hlen, List.getElem?_drop, List.getElem?_replicate, if_pos (by omega)]
        simp [mkf, hjl]
    · exact frozen_of_row _ _ _ _ _ hl2

theorem pop_k (tb eb pb kk m nv ne cv ce vi ei : Nat) (vb ub : Option Nat) (vg eg : Bool) (fv fe : Nat → Bool) (T : Array Value) (w : World) (hk : kk = m + 1) (hk2 : kk ≤ 1048577) (hnv : nv ≤ 4194304) (hne : ne ≤ 4194304) (hvi : vi < nv) (hei : ei < ne)
    (hT : w.heap[tb]? = some (.cells T 58 (0, 0))) (t9 : T[9]? = some (sval vb nv cv)) (t10 : T[10]? = some (.bool vg)) (t11 : T[11]? = some (sval ub ne ce)) (t12 : T[12]? = some (.bool eg)) (t19 : T[19]? = some (.slice (some ⟨pb, 0, none⟩) (kk + 1) (kk + 1))) (t20 : T[20]? = some (.slice (some ⟨eb, 0, none⟩) kk kk))
    (hE : w.cell? ⟨eb, m, none⟩ = some (.int .i32 (ei : Int))) (hP : w.cell? ⟨pb, kk, none⟩ = some (.int .i32 (vi : Int))) (heb : eb < w.heap.size) (hpb : pb < w.heap.size) (hte : tb ≠ eb) (htp : tb ≠ pb)
    (hv : ∀ b, vb = some b → Row w b nv (fun j => .bool (fv j)) ∧ b ≠ tb ∧ b ≠ eb ∧ b ≠ pb ∧ ub ≠ some b) (hu : ∀ b, ub = some b → Row w b ne (fun j => .bool (fe j)) ∧ b ≠ tb ∧ b ≠ eb ∧ b ≠ pb) :
    Calls Yba.prog 9 #[.pointer (some ⟨tb, 0, none⟩)] w fun e w' => e = .returned (.tuple #[]) ∧ Popped w w' tb eb pb m vb ub nv ne fv fe vg eg vi ei T ∧ w'.cell? ⟨tb, 19, none⟩ = some (.slice (some ⟨pb, 0, none⟩) kk (kk + 1)) ∧ w'.cell? ⟨tb, 20, none⟩ = some (.slice (some ⟨eb, 0, none⟩) m kk) := by
  subst hk
  refine (pop_any tb eb pb m nv ne cv ce vi ei vb ub vg eg fv fe T w hk2 hnv hne hvi hei hT t9 t10 t11 t12 t19 t20 hE hP heb hpb hte htp hv hu).mono ?_
  rintro e w' ⟨rfl, hp⟩
  exact ⟨rfl, hp, hp.c19, hp.c20⟩
end Go.Proofs.Ybulkdxte
