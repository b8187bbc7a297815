/- LawS6216CWhole: zzs6216clast and nodeIndex by their contracts. -/
import Derived.Test.YbulkdxscRows
import Derived.Test.YbulkdxscMaps
import Derived.Test.YbulkdxscCPlain
import Derived.WalkKit
import Derived.WalkSpells
import Derived.WalkLawsBesides
import Derived.BigQuiet
import Derived.Deep.QuietTactic
import Derived.Deep.Draws
import Derived.Deep.OwnRows
namespace Go.Proofs.Ybulkdxsc
set_option linter.unusedVariables false
open Go.RowKit Go.Maps Go.WideMaps Go.WideElems

theorem run_store_float (P : Program) (w : World) (a : Addr) (m : Mode) (k : FloatKind) (b : Nat) : (store a (.float k b) m).run P w = stored P w a (.float k b) m := run_store P w a _ m rfl
attribute [local go_sem] run_store_float
theorem drewN2 (w : World) (a b : Nat) : (w.drewN a).drewN b = w.drewN (a + b) := by simp [World.drewN, Nat.add_assoc]
theorem eq_list {a b : ByteArray} (h : a = b) : (a.toList == b.toList) = true := by rw [h]; simp
theorem neq_list {a b : ByteArray} (h : ¬ a = b) : (a.toList == b.toList) = false := by
  rw [beq_eq_false_iff_ne]
  intro e
  apply h
  cases a; cases b
  simpa [ByteArray.toList_eq, Array.toList_inj] using e

set_option maxHeartbeats 400000 in
theorem clast_any (b off n cap i : Nat) (S : Nat → ByteArray) (w : World) (hi : i < n) (hn : n ≤ 4096) (hS : ∀ x, x < n → w.cell? ⟨b, off + x, none⟩ = some (.string (S x))) :
    Calls Yba.prog 10 #[.slice (some ⟨b, off, none⟩) n cap, .int .i64 i] w fun e w' => ∃ l, lst S (S i) n = some l ∧ e = .returned (.int .i64 l) ∧ ∃ nq, w' = w.drewN nq := by
  go_enter Yba.func10, Yba.ntmps10
  go_wp2
  go_loopw [5] (fun j wr => ∃ (q nq : Nat), i ≤ q ∧ q < n ∧ j = .int .i64 q ∧ (∀ x, q < x → x < n → S x ≠ S i) ∧ wr = w.drewN nq) (fun j _ => (intOf j).toNat)
  case atStart => exact ⟨n - 1, 0, by omega, by omega, by go_num, fun x h1 h2 => by omega, rfl⟩
  case round =>
    obtain ⟨q, nq0, h1, h2, rfl, hno, rfl⟩ := hrel
    have HN : Hid (∀ x, q < x → x < n → S x ≠ S i) := hno
    clear hno
    have c1 := hS q h2
    have c2 := hS i hi
    have HS : Hid (∀ x, x < n → w.cell? ⟨b, off + x, none⟩ = some (.string (S x))) := hS
    clear hS
    by_cases hq : i < q
    · have b1 : (0 : Int) ≤ (q : Int) := by omega
      have b2 : (q : Int) < (n : Int) := by omega
      have b3 : (0 : Int) ≤ (i : Int) := by omega
      have b4 : (i : Int) < (n : Int) := by omega
      by_cases hse : S q = S i
      · have hb := eq_list hse
        have HE : Hid (S q = S i) := hse
        clear hse
        go_wp2
        go_quiet (fail)
        go_wp2
        go_ret
        exact ⟨q, lst_eq S (S i) n q h2 HE.out HN.out, rfl, _, drewN2 _ _ _⟩
      · have hb := neq_list hse
        have HE : Hid (¬ S q = S i) := hse
        clear hse
        go_wp2
        go_quiet (fail)
        go_wp2
        go_roundw
        case rel =>
          refine ⟨q - 1, _, by omega, by omega, by go_num, fun x hx1 hx2 => ?_, by first | rfl | exact drewN2 _ _ _⟩
          by_cases hxq : x = q
          · subst hxq; exact HE.out
          · exact HN.out x (by omega) hx2
        case measure => simp [intOf]; omega
    · have hqi : q = i := by omega
      subst hqi
      go_wp2
      go_ret
      exact ⟨q, lst_eq S (S q) n q h2 rfl HN.out, rfl, _, rfl⟩

theorem key9 : Keyed Yba.prog 9 := string_keyed Yba.underlying9
theorem zero3 (w : World) : (zeroValue 3).run Yba.prog w = .ok (.int .i64 0) w := by kernel_rfl
def keyS (s : ByteArray) : Lit := .string s.data.toList
def numD (n : Nat) : DataW Unit := .lit (.int .i64 n)
theorem isKeyS (s : ByteArray) : WideAt.IsKeyLit (keyS s) := by simp [WideAt.IsKeyLit, keyS]
theorem keyS_inj {a b : ByteArray} (h : keyS a = keyS b) : a = b := by
  unfold keyS at h
  cases a; cases b
  simp at h
  rw [h]
theorem key_ok {s : ByteArray} (h : s.size ≤ maxLen) : keyOf Yba.prog 9 (.string s) = some (keyS s) := keyOf_string_mk Yba.underlying9 h
theorem makeMap_hint (n : Nat) (w : World) : (Instr.makeMap 156 (some (.int .i64 (n : Int)))).run Yba.prog w = .ok (.map (some w.heap.size)) (w.alloc (.map #[] 0)) := by
  have h := run_underlying (P := Yba.prog) (w := w) Yba.underlying156
  simp [Instr.makeMap, h, asInt, asIntOf]

/-- The six cells of a node. -/
def nodeAt (w : World) (nb : Nat) (i : Nat) (s : ByteArray) (f : Nat) (ad : Bool) : Prop :=
  w.cell? ⟨nb, i * 6, none⟩ = some (.string s) ∧ w.cell? ⟨nb, i * 6 + 1, none⟩ = some (.float .f64 f) ∧ w.cell? ⟨nb, i * 6 + 2, none⟩ = some (.float .f64 0) ∧
  w.cell? ⟨nb, i * 6 + 3, none⟩ = some (.float .f64 0) ∧ w.cell? ⟨nb, i * 6 + 4, none⟩ = some (.bool ad) ∧ w.cell? ⟨nb, i * 6 + 5, none⟩ = some (.int .i64 i)

/-- What nodeIndex's map holds behind k rounds. -/
structure Idx (w wr : World) (S : Nat → ByteArray) (k : Nat) (f : Lit → Option (DataW Unit)) : Prop where
  mp : MapAt wr Yba.prog 9 (plainElem Yba.prog 3) w.heap.size k (cnt S k k) f
  at' : ∀ s, f (keyS s) = (lst S s k).map numD
  bel : Below w.heap.size w wr
  sz : w.heap.size + 1 ≤ wr.heap.size

theorem Idx.step {w wr w2 : World} {S : Nat → ByteArray} {k : Nat} {f : Lit → Option (DataW Unit)} (h : Idx w wr S k f) (o : Obj)
    (m2 : MapAt w2 Yba.prog 9 (plainElem Yba.prog 3) w.heap.size (k + 1) (if (f (keyS (S k))).isSome then cnt S k k else cnt S k k + 1) (putF f (keyS (S k)) (numD k))) (g2 : (wr.alloc o).grownBy w2 (some w.heap.size)) :
    Idx w w2 S (k + 1) (putF f (keyS (S k)) (numD k)) := by
  have hs := h.sz
  have s2 := g2.size
  simp at s2
  refine ⟨?_, fun s => ?_, ?_, by omega⟩
  · rw [cnt_step]
    have : (f (keyS (S k))).isSome = (lst S (S k) k).isSome := by rw [h.at']; simp
    rw [this] at m2
    exact m2
  · show _ = (if S k = s then some k else lst S s k).map numD
    by_cases e : S k = s
    · subst e; rw [putF_same f (isKeyS _), if_pos rfl]; rfl
    · rw [if_neg e, putF_other f (isKeyS _) _ (fun e2 => e (keyS_inj e2).symm)]; exact h.at' s
  · exact Below.grown (h.bel.alloc (by omega) _) g2 (by simp; omega) (fun j hj => by cases hj; exact Nat.le_refl _)

set_option maxHeartbeats 800000 in
theorem index_any (sb nb n : Nat) (S : Nat → ByteArray) (F : Nat → Nat) (A : Nat → Bool) (w : World) (hn : n ≤ 4096) (hSz : ∀ i, (S i).size ≤ maxLen) (hs : w.cell? ⟨sb, 20, none⟩ = some (.slice (some ⟨nb, 0, none⟩) n n))
    (hnb : nb < w.heap.size) (hsb : sb < w.heap.size) (hN : ∀ i, i < n → nodeAt w nb i (S i) (F i) (A i)) :
    Calls Yba.prog 9 #[.pointer (some ⟨sb, 0, none⟩)] w fun e w' => e = .returned (.map (some w.heap.size)) ∧ ∃ f, Idx w w' S n f := by
  have hmm := makeMap_hint n
  go_enter Yba.func9, Yba.ntmps9
  go_wp2
  go_loopw [17] (fun i wr => ∃ (k : Nat) (f : Lit → Option (DataW Unit)), k ≤ n ∧ i = .int .i64 k ∧ Idx w wr S k f) (fun i _ => n - (intOf i).toNat)
  case atStart => exact ⟨0, fun _ => none, Nat.zero_le _, rfl, ⟨MapAt.made _ _ _ _, fun s => rfl, (Below.refl _ _).alloc (Nat.le_refl _) _, by simp⟩⟩
  case round =>
    obtain ⟨k, f, hk, rfl, hI⟩ := hrel
    by_cases hlt : k < n
    · obtain ⟨c0, c1, c2, c3, c4, c5⟩ := hN k hlt
      have d0 := (hI.bel.cell (p := ⟨nb, k * 6, none⟩) (by exact hnb)).trans c0
      have d1 := (hI.bel.cell (p := ⟨nb, k * 6 + 1, none⟩) (by exact hnb)).trans c1
      have d2 := (hI.bel.cell (p := ⟨nb, k * 6 + 2, none⟩) (by exact hnb)).trans c2
      have d3 := (hI.bel.cell (p := ⟨nb, k * 6 + 3, none⟩) (by exact hnb)).trans c3
      have d4 := (hI.bel.cell (p := ⟨nb, k * 6 + 4, none⟩) (by exact hnb)).trans c4
      have d5 := (hI.bel.cell (p := ⟨nb, k * 6 + 5, none⟩) (by exact hnb)).trans c5
      clear c0 c1 c2 c3 c4 c5
      have HI : Hid (Idx w wr S k f) := hI
      have hmp := hI.mp
      clear hI hmm
      go_wp2_with (first
        | (at_mapUpdate; refine wpList_put rfl _ _ _ 156 rfl 3 key9 Yba.underlying156 rfl (hmp.alloc _) (by unfold maxLen; omega) _ _ _ rfl rfl (key_ok (hSz k)) (isKeyS _) _ _ (plainElem_int Yba.underlying3 (WalkArith.wf_i64 (by omega))) ?_; intro w2 m2 g2)
        | go_in)
      go_roundw
      case rel => exact ⟨k + 1, _, by omega, by go_num, HI.out.step _ m2 g2⟩
      case measure => simp [intOf]; omega
    · have hke : k = n := by omega
      subst hke
      go_wp2
      go_ret
      exact ⟨rfl, f, hI⟩

/-- No node at all. -/
theorem index_none (sb : Nat) (na : Option Addr) (S : Nat → ByteArray) (w : World) (hs : w.cell? ⟨sb, 20, none⟩ = some (.slice na 0 0)) :
    Calls Yba.prog 9 #[.pointer (some ⟨sb, 0, none⟩)] w fun e w' => e = .returned (.map (some w.heap.size)) ∧ ∃ f, Idx w w' S 0 f := by
  have hmm : ∀ w : World, (Instr.makeMap 156 (some (.int .i64 0))).run Yba.prog w = .ok (.map (some w.heap.size)) (w.alloc (.map #[] 0)) := makeMap_hint 0
  have hsb : sb < w.heap.size := World.block_lt_of_cell? _ _ hs
  go_enter Yba.func9, Yba.ntmps9
  go_wp2
  refine wp_loop_rounds 1 ?_
  rw [rounds_succ]
  go_wp2
  go_ret
  exact ⟨rfl, fun _ => none, ⟨MapAt.made _ _ _ _, fun s => rfl, (Below.refl _ _).alloc (Nat.le_refl _) _, by simp⟩⟩
end Go.Proofs.Ybulkdxsc
