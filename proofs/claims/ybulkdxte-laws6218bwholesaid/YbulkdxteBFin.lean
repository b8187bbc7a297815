/- LawS6218BWhole: pop on the traversal that the law has built. -/
import Derived.Test.YbulkdxteBSt
namespace Go.Proofs.Ybulkdxte
set_option linter.unusedVariables false
open Go.RowKit

/-- How it stands behind pop, all that the law reads. -/
structure Fin (w w' : World) (H tb kk m nv ne pc ec : Nat) (vb ub xv yv : Option Nat) (EF PF : Nat → Int) (gv ge : Nat → Bool) (T : Array Value) : Prop where
  c19 : w'.cell? ⟨tb, 19, none⟩ = some (.slice (some ⟨H + 1, 0, none⟩) kk (kk + 1))
  c20 : w'.cell? ⟨tb, 20, none⟩ = some (.slice (some ⟨H, 0, none⟩) m kk)
  cell : ∀ j v, T[j]? = some v → j ≠ 19 → j ≠ 20 → w'.cell? ⟨tb, j, none⟩ = some v
  e : Row w' H kk (fun j => .int .i32 (EF j))
  p : Row w' (H + 1) (kk + 1) (fun j => .int .i32 (PF j))
  ec : Row w' ec kk (fun j => .int .i32 (EF j))
  pc : Row w' pc (kk + 1) (fun j => .int .i32 (PF j))
  v : ∀ b, vb = some b → Row w' b nv (fun j => .bool (gv j))
  x : ∀ b, xv = some b → Row w' b nv (fun j => .bool (gv j))
  u : ∀ b, ub = some b → Row w' b ne (fun j => .bool (ge j))
  y : ∀ b, yv = some b → Row w' b ne (fun j => .bool (ge j))
  bel : Below H w w'

theorem pop_fin (w w10 : World) (H B1 B2 B3 B4 B5 B6 kk m nv ne pc ec vi ei : Nat) (vb ub xv yv : Option Nat) (va ua : Option Addr) (vl vq ul uq : Nat) (vg eg : Bool) (fv fe : Nat → Bool) (EF PF : Nat → Int) (T : Array Value)
    (t9 : T[9]? = some (.slice va vl vq)) (t10 : T[10]? = some (.bool vg)) (t11 : T[11]? = some (.slice ua ul uq)) (t12 : T[12]? = some (.bool eg)) (t19 : T[19]? = some (.slice (some ⟨H + 1, 0, none⟩) (kk + 1) (kk + 1))) (t20 : T[20]? = some (.slice (some ⟨H, 0, none⟩) kk kk))
    (hkm : kk = m + 1) (n1 : 0 < nv ∧ nv ≤ 1048576) (n2 : 0 < ne ∧ ne ≤ 1048576) (n3 : kk ≤ 1048576) (hvi : vi < nv) (hei : ei < ne) (hPF : PF kk = (vi : Int)) (hEF : EF m = (ei : Int)) (hva : sval vb nv nv = .slice va vl vq) (hua : sval ub ne ne = .slice ua ul uq)
    (hB : Base w w10 H kk EF PF) (hV : Mk w10 (H + 2) B1 vb nv fv) (hU : Mk w10 B1 B2 ub ne fe) (hX : Mk w10 B2 B3 xv nv (clr fv vg vi)) (hY : Mk w10 B3 B4 yv ne (clr fe eg ei)) (hpc : Row w10 pc (kk + 1) (fun j => .int .i32 (PF j))) (hec : Row w10 ec kk (fun j => .int .i32 (EF j)))
    (hc : H + 2 ≤ B1 ∧ B1 ≤ B2 ∧ B2 ≤ B3 ∧ B3 ≤ B4 ∧ B4 ≤ pc ∧ pc < B5) (hc2 : B5 ≤ ec ∧ ec < B6) (hB6 : B6 = w10.heap.size) :
    Calls Yba.prog 9 #[.pointer (some ⟨B6, 0, none⟩)] (w10.alloc (.cells T 58)) fun e w' => e = .returned (.tuple #[]) ∧ Fin w w' H B6 kk m nv ne pc ec vb ub xv yv EF PF (clr fv vg vi) (clr fe eg ei) T := by
  have hlast := heap_alloc_last w10 (.cells T 58)
  obtain ⟨w11, hw⟩ : ∃ w11, w11 = w10.alloc (.cells T 58) := ⟨_, rfl⟩
  have hb : Below B6 w10 w11 := by rw [hw]; exact (Below.refl _ _).alloc (by omega) _
  have hsz : w11.heap.size = B6 + 1 := by rw [hw, hB6]; simp
  rw [← hw]
  rw [← hw, ← hB6] at hlast
  have hB' := hB.next hb (by omega)
  have hV' := hV.next hb (by omega)
  have hU' := hU.next hb (by omega)
  have hX' := hX.next hb (by omega)
  have hY' := hY.next hb (by omega)
  have hpc' := hpc.later hb.size (hb.block pc (by omega))
  have hec' := hec.later hb.size (hb.block ec (by omega))
  have hvr : ∀ b, vb = some b → H + 2 ≤ b ∧ b < B1 := fun b e => ⟨(hV b e).1, (hV b e).2.1⟩
  have hur : ∀ b, ub = some b → B1 ≤ b ∧ b < B2 := fun b e => ⟨(hU b e).1, (hU b e).2.1⟩
  have far : ∀ x, x ≠ B6 → (x < H + 2 ∨ B2 ≤ x) → vb ≠ some x ∧ ub ≠ some x := fun x _ h => ⟨fun e => by have := hvr x e; omega, fun e => by have := hur x e; omega⟩
  refine (pop_k B6 H (H + 1) kk m nv ne nv ne vi ei vb ub vg eg fv fe T w11 hkm (by omega) (by omega) (by omega) hvi hei hlast (by rw [hva]; exact t9) t10 (by rw [hua]; exact t11) t12 t19 t20 ?_ ?_ (by omega) (by omega) (by omega) (by omega) ?_ ?_).mono ?_
  · have := hB'.e.cell m (by omega); rw [hEF] at this; exact this
  · have := hB'.p.cell kk (by omega); rw [hPF] at this; exact this
  · intro b e
    have h1 := hV' b e
    have h2 := hvr b e
    exact ⟨h1.2.2, by omega, by omega, by omega, fun e2 => by have := hur b e2; omega⟩
  · intro b e
    have h1 := hU' b e
    have h2 := hur b e
    exact ⟨h1.2.2, by omega, by omega, by omega⟩
  · rintro e w' ⟨rfl, hp, h19, h20⟩
    have keep : ∀ x, x < B6 → (x < H + 2 ∨ B2 ≤ x) → w'.heap[x]? = w11.heap[x]? := fun x h1 h2 => hp.blk x (by omega) (by omega) (far x (by omega) h2).1 (far x (by omega) h2).2
    refine ⟨rfl, h19, h20, hp.cell, hB'.e.later hp.size (keep _ (by omega) (by omega)), hB'.p.later hp.size (keep _ (by omega) (by omega)), hec'.later hp.size (keep _ (by omega) (by omega)), hpc'.later hp.size (keep _ (by omega) (by omega)), hp.rowv, fun b e => ?_, hp.rowe, fun b e => ?_, ?_⟩
    · have h1 := hX' b e
      exact h1.2.2.later hp.size (keep b (by omega) (by omega))
    · have h1 := hY' b e
      exact h1.2.2.later hp.size (keep b (by omega) (by omega))
    · exact hB'.bel.trans (hp.bel H (fun b e => by have := hvr b e; omega) (fun b e => by have := hur b e; omega) (by omega) (by omega))

theorem Fin.later {w w' w'' : World} {H tb kk m nv ne pc ec : Nat} {vb ub xv yv : Option Nat} {EF PF : Nat → Int} {gv ge : Nat → Bool} {T : Array Value} (h : Fin w w' H tb kk m nv ne pc ec vb ub xv yv EF PF gv ge T) (q : Nat) (hw : w'' = w'.drewN q) : Fin w w'' H tb kk m nv ne pc ec vb ub xv yv EF PF gv ge T := by
  subst hw
  exact ⟨h.c19, h.c20, h.cell, ⟨h.e.lt, h.e.cell, h.e.free⟩, ⟨h.p.lt, h.p.cell, h.p.free⟩, ⟨h.ec.lt, h.ec.cell, h.ec.free⟩, ⟨h.pc.lt, h.pc.cell, h.pc.free⟩, fun b e => ⟨(h.v b e).lt, (h.v b e).cell, (h.v b e).free⟩, fun b e => ⟨(h.x b e).lt, (h.x b e).cell, (h.x b e).free⟩, fun b e => ⟨(h.u b e).lt, (h.u b e).cell, (h.u b e).free⟩, fun b e => ⟨(h.y b e).lt, (h.y b e).cell, (h.y b e).free⟩, ⟨h.bel.os, h.bel.tape, h.bel.output, h.bel.size, h.bel.block⟩⟩
theorem eql_nilfunc (w : World) : (binOp .eql 56 .nilFunc .nilFunc).run Yba.prog w = .ok (.bool true) w := by
  have h : ∀ d : Nat, (Op.equalIn (d + 1) 56 .nilFunc .nilFunc).run Yba.prog w = .ok true w := fun d => by
    simp [Op.equalIn, run_underlying Yba.underlying56]
  simp only [binOp]
  simp [Op.equal, Op.maxDepth, h 9999]
theorem below_drewq (B : Nat) (w : World) (q : Nat) : Below B w (w.drewN q) := ⟨rfl, rfl, rfl, Nat.le_refl _, fun _ _ => rfl⟩
/-- The four comparisons of marks. -/
theorem Fin.sameV {w w' : World} {H tb kk m nv ne pc ec : Nat} {vb ub xv yv : Option Nat} {EF PF : Nat → Int} {gv ge : Nat → Bool} {T : Array Value} (h : Fin w w' H tb kk m nv ne pc ec vb ub xv yv EF PF gv ge T) (va : Option Addr) (vl vq xc : Nat) (hn : nv ≤ 1048576) (hi : vb.isSome = xv.isSome) (hva : sval vb nv nv = .slice va vl vq) (q : Nat) :
    Calls Yba.prog 10 #[.slice va vl vq, sval xv nv xc] (w'.drewN q) fun e w'' => e = .returned (.bool true) ∧ ∃ q', w'' = w'.drewN q' := by
  have h' := h.later q rfl
  rw [← hva]
  refine (same_any vb xv nv nv xc gv _ (by omega) hi h'.v h'.x).mono ?_
  rintro e w'' ⟨rfl, nq, rfl⟩
  exact ⟨rfl, _, drewNC _ _ _⟩
theorem Fin.sameE {w w' : World} {H tb kk m nv ne pc ec : Nat} {vb ub xv yv : Option Nat} {EF PF : Nat → Int} {gv ge : Nat → Bool} {T : Array Value} (h : Fin w w' H tb kk m nv ne pc ec vb ub xv yv EF PF gv ge T) (ua : Option Addr) (ul uq yc : Nat) (hn : ne ≤ 1048576) (hi : ub.isSome = yv.isSome) (hua : sval ub ne ne = .slice ua ul uq) (q : Nat) :
    Calls Yba.prog 10 #[.slice ua ul uq, sval yv ne yc] (w'.drewN q) fun e w'' => e = .returned (.bool true) ∧ ∃ q', w'' = w'.drewN q' := by
  have h' := h.later q rfl
  rw [← hua]
  refine (same_any ub yv ne ne yc ge _ (by omega) hi h'.u h'.y).mono ?_
  rintro e w'' ⟨rfl, nq, rfl⟩
  exact ⟨rfl, _, drewNC _ _ _⟩
theorem Fin.at {w w' : World} {H tb kk m nv ne pc ec : Nat} {vb ub xv yv : Option Nat} {EF PF : Nat → Int} {gv ge : Nat → Bool} {T : Array Value} (h : Fin w w' H tb kk m nv ne pc ec vb ub xv yv EF PF gv ge T) (j : Nat) (v : Value) (hj : T[j]? = some v) (h1 : j ≠ 19) (h2 : j ≠ 20) : ∀ q, (w'.drewN q).cell? ⟨tb, j, none⟩ = some v := fun q => h.cell j v hj h1 h2
end Go.Proofs.Ybulkdxte
