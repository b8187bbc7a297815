/- LawS6213CWhole: a queue's walk: walk hands every job to yield, in order. -/
import Derived.Test.YbulkdxqmGreatFmtQueue
import Derived.RangeFuncKeeps
import Derived.RangeFuncBound
import Derived.RangeFuncLeaves
import Derived.Shelf.Abstract
import Derived.WalkKit
import Derived.OwnWalkIn
import Derived.TacticsInMore
import Derived.LoopNIn
import Derived.LoopIn
namespace Go.Proofs.YbulkdxqmGreatFmt
set_option linter.unusedVariables false
set_option linter.unusedSimpArgs false
open Go Go.RowKit Go.Shelf
attribute [local go_sem] Oper.semAt_some

theorem Arr.below {w w' : World} {g e k n c n₀ : Nat} {xs : List Value} (h : Arr w g e k n c xs) (hb : Below n₀ w w') (hg : g < n₀) : Arr w' g e k n c xs := by
  refine ⟨fun j v hj => (hb.cell (p := ⟨g, j, none⟩) hg).trans (h.cell j v hj), fun j hj => by rw [hb.cell (p := ⟨g, j, none⟩) hg]; exact h.room j hj, fun j => (World.frozen?_of_block (hb.block g hg)).trans (h.free j), ?_, h.len, h.nc, h.cm, h.one⟩
  have := h.shp
  unfold World.shape? at this ⊢
  rw [hb.block g hg]; exact this
theorem NodeAt.below {w w' : World} {U : Option Nat} {F b n₀ : Nat} (h : NodeAt w U F b) (hb : Below n₀ w w') (hg : b < n₀) : NodeAt w' U F b := by
  have k : ∀ j v, w.cell? ⟨b, j, none⟩ = some v → w'.cell? ⟨b, j, none⟩ = some v := fun j v hc => (hb.cell (p := ⟨b, j, none⟩) hg).trans hc
  obtain ⟨T, hT⟩ := h.pl
  obtain ⟨x, y, z, s1, s2, s3, s4⟩ := h.sp
  obtain ⟨v, h9⟩ := h.c9
  exact ⟨⟨T, (hb.block b hg).trans hT⟩, k _ _ h.c0, k _ _ h.c4, ⟨x, y, z, k _ _ s1, k _ _ s2, k _ _ s3, k _ _ s4⟩, ⟨v, k _ _ h9⟩, k _ _ h.c23⟩
theorem Inv.below {w w' : World} {G : Gh} {over : Option Nat} {root n₀ : Nat} (h : Inv w G over root) (hb : Below n₀ w w') (hn : ∀ x, G.R x ≠ none → x < n₀) : Inv w' G over root := by
  refine ⟨h.shape, fun b hL => ?_, fun l hl b hL => ?_, fun x hx => h.new x (Nat.le_trans hb.size hx)⟩
  · obtain ⟨o1, o2, o3⟩ := h.shape.own 0 (by omega) b hL
    have b1 := hn b (by rw [o1]; simp)
    have b2 := hn (G.A b) (by rw [o2]; simp)
    have b3 := hn (G.S b) (by rw [o3 rfl]; simp)
    have k : ∀ j v, w.cell? ⟨b, j, none⟩ = some v → w'.cell? ⟨b, j, none⟩ = some v := fun j v hc => (hb.cell (p := ⟨b, j, none⟩) b1).trans hc
    have hl := h.leaf b hL
    obtain ⟨xs, x1, x2⟩ := hl.sa
    exact ⟨hl.node.below hb b1, k _ _ hl.c1, k _ _ hl.c2, k _ _ hl.c3, hl.ja.below hb b2, xs, x1.below hb b3, x2⟩
  · obtain ⟨o1, o2, _⟩ := h.shape.own (l + 1) (by omega) b hL
    have b1 := hn b (by rw [o1]; simp)
    have b2 := hn (G.A b) (by rw [o2]; simp)
    have hl := h.inner l hl b hL
    exact ⟨hl.node.below hb b1, (hb.cell (p := ⟨b, 1, none⟩) b1).trans hl.c1, hl.ka.below hb b2⟩

/-- The jobs under a node. -/
def under (G : Gh) : Nat → Nat → List Nat
  | 0, b => G.J b
  | l + 1, b => (G.K b).flatMap (under G l)
theorem under_flat {G : Gh} {over : Option Nat} {root : Nat} (h : Shape G over root) : ∀ l, l ≤ G.D → (G.L l).flatMap (under G l) = G.flat
  | 0, _ => rfl
  | l + 1, hl => by
    rw [← under_flat h l (by omega), ← h.chain l (by omega), List.flatMap_assoc]
    rfl
theorem under_root {G : Gh} {over : Option Nat} {root : Nat} (h : Shape G over root) : under G G.D root = G.flat := by
  have := under_flat h G.D (Nat.le_refl _)
  rw [h.top] at this
  simpa using this
theorem under_mem {G : Gh} {over : Option Nat} {root : Nat} (h : Shape G over root) (l : Nat) (hl : l ≤ G.D) (b : Nat) (hb : b ∈ G.L l) : ∀ k ∈ under G l b, k ∈ G.flat := fun k hk => by
  rw [← under_flat h l hl]; exact List.mem_flatMap.2 ⟨b, hb, hk⟩

theorem roomN {F : Fence} (hd : F.depth = none) (k : Nat) : F.room k := fun d h => by rw [hd] at h; cases h
theorem YieldAt.deep {F : Fence} (hd : F.depth = none) {m : Nat} (m' : Nat) {P : Program} {l : Nat} {args : Array Value} {W : World} {R : Ending → World → Prop} (h : YieldAt F m P l args W R) : YieldAt F m' P l args W R := by
  obtain ⟨fn, tmps, assign, body, hy, hR⟩ := h
  exact ⟨fn, tmps, assign, body, hy, ⟨hR.1, fun c cs _ => hR.2 c cs (roomN hd _)⟩⟩

/-- The run that a leaf hands to yield. -/
def runOf (slots : Nat → Int) (x : Nat) : Value := .agg #[.pointer (some ⟨x, 0, none⟩), .int .i64 (slots x), .bool false]

set_option maxRecDepth 100000 in
set_option maxHeartbeats 4000000 in
theorem walk_leaf (L n₀ : Nat) (slots : Nat → Int) (U : Option Nat) (Fj A S b : Nat) (xs tot : List Nat) (hbn : b < n₀ ∧ A < n₀) (J : List Nat → World → Prop)
    (hY : ∀ m pre x W, J pre W → pre ++ [x] <+: tot → YieldAt Fence.wide m Ybaz.prog L #[runOf slots x] W fun e W' => e = .returned (.bool true) ∧ J (pre ++ [x]) W' ∧ Below n₀ W W')
    (n : Nat) (pre : List Nat) (W : World) (hpre : pre ++ xs <+: tot) (hL : LeafAt W U Fj A S xs b) (hj : ∀ k ∈ xs, k < n₀ ∧ W.cell? ⟨k, 8, none⟩ = some (.int .i64 (slots k))) (hJ : J pre W) :
    CallsIn Fence.wide n Ybaz.prog 53 #[.pointer (some ⟨b, 0, none⟩), .func (.func 30) #[] #[], .func (.yield L) #[] #[]] W fun e W' => e = .returned (.bool true) ∧ J (pre ++ xs) W' ∧ Below n₀ W W' := by
  have hdd : ∀ k : Nat, (Fence.wide.depth.isSome = true → 1 ≤ k) := fun k h => by cases h
  have h53 : Fence.wide.fn 53 := trivial
  have h30 : Fence.wide.fn 30 := trivial
  obtain ⟨v9, c9⟩ := hL.node.c9
  have c1 := hL.c1
  have c2 := hL.c2
  obtain ⟨N, hN⟩ : ∃ N, Hid (N = xs.length) := ⟨_, rfl⟩
  rw [← hN.out] at c2
  have HL : Hid (LeafAt W U Fj A S xs b) := hL
  have HJB : Hid (∀ k ∈ xs, k < n₀ ∧ W.cell? ⟨k, 8, none⟩ = some (.int .i64 (slots k))) := hj
  have HPRE : Hid (pre ++ xs <+: tot) := hpre
  have HY : Hid (∀ m pre x W, J pre W → pre ++ [x] <+: tot → YieldAt Fence.wide m Ybaz.prog L #[runOf slots x] W fun e W' => e = .returned (.bool true) ∧ J (pre ++ [x]) W' ∧ Below n₀ W W') := hY
  have HJ0 : Hid (J pre W) := hJ
  have q2 := fun (w : World) (a : Option Addr) (n c n' c' : Nat) => Lib.run_eql_slice_nil (P := Ybaz.prog) w _ _ a n c n' c' Ybaz.underlying35
  have hnn := hL.ja.cm
  have hnc := hL.ja.nc
  rw [← hN.out] at hnc
  clear hL hj hY hJ hpre
  refine callsIn_of_wp Ybaz.func53 rfl h53 ?_ rfl
  simp only [Ybaz.ntmps53, List.size_toArray, List.length_cons, List.length_nil, Nat.reduceAdd, Nat.reduceSub, Array.replicate_succ, Array.replicate_zero, List.push_toArray, List.append_toArray, List.nil_append, List.cons_append]
  gi_wp2_with ((try refine ⟨hdd _, ?_⟩); gi_at_call 30; refine (callsIn_wide.2 (none30 _ _)).mono ?_; rintro e W1 ⟨rfl, hw⟩; obtain rfl : W = W1 := hw.symm)
  gi_loopw [38] (fun v wr => ∃ i : Nat, i ≤ N ∧ v = .int .i64 i ∧ J (pre ++ xs.take i) wr ∧ Below n₀ W wr) (fun v _ => N - (intOf v).toNat)
  case atStart => exact ⟨0, Nat.zero_le _, rfl, by rw [List.take_zero, List.append_nil]; exact HJ0.out, Below.refl _ _⟩
  case round =>
    rename World => W2
    obtain ⟨i, hi, rfl, hJ2, hB2⟩ := hrel
    have HJ2 : Hid (J (pre ++ xs.take i) W2) := hJ2
    have HB2 : Hid (Below n₀ W W2) := hB2
    clear hJ2 hB2
    by_cases hlt : i < N
    · have hil : i < xs.length := by rw [← hN.out]; exact hlt
      obtain ⟨k, hk⟩ : ∃ k, xs[i]? = some k := ⟨_, List.getElem?_eq_getElem hil⟩
      have hkm : k ∈ xs := List.mem_of_getElem? hk
      obtain ⟨hk1, hk2⟩ := HJB.out k hkm
      have l1 : (i : Int) < (N : Int) := by omega
      have a1 : W2.cell? ⟨A, i, none⟩ = some (.pointer (some ⟨k, 0, none⟩)) := (HB2.out.cell (p := ⟨A, i, none⟩) hbn.2).trans (HL.out.ja.cell i _ (by rw [List.getElem?_map, hk]; rfl))
      have a2 : W2.cell? ⟨k, 8, none⟩ = some (.int .i64 (slots k)) := (HB2.out.cell (p := ⟨k, 8, none⟩) hk1).trans hk2
      have HK : Hid (xs[i]? = some k) := hk
      obtain ⟨fn, tmps, assign, body, hy, hR⟩ := HY.out (n - 1) _ k W2 HJ2.out (by
        have e : xs.take (i + 1) = xs.take i ++ [k] := by rw [List.take_add_one, hk]; rfl
        rw [List.append_assoc, ← e]
        exact ((List.prefix_append_right_inj pre).2 (List.take_prefix _ _)).trans HPRE.out)
      have hy' : (Instr.yield L #[.agg #[.pointer (some ⟨k, 0, none⟩), .int .i64 (slots k), .bool false]]).run Ybaz.prog W2 = .ok (.round L fn tmps assign body) W2 := hy
      clear hy hk hkm hil
      gi_wp2
      refine ⟨hdd _, hR.mono ?_⟩
      rintro e W3 ⟨rfl, hJ3, hB3⟩
      have HJ3 : Hid (J (pre ++ xs.take i ++ [k]) W3) := hJ3
      have HB3 : Hid (Below n₀ W2 W3) := hB3
      clear hR hy' hJ3 hB3
      gi_wp2
      go_roundw
      case rel =>
        refine ⟨i + 1, by omega, by go_num, ?_, HB2.out.trans HB3.out⟩
        have e : xs.take (i + 1) = xs.take i ++ [k] := by rw [List.take_add_one, HK.out]; rfl
        rw [e, ← List.append_assoc]; exact HJ3.out
      case measure => simp [intOf]; omega
    · have him : N = i := by omega
      subst him
      gi_wp2
      go_ret
      have e : xs.take N = xs := by rw [hN.out, List.take_length]
      exact ⟨rfl, by have := HJ2.out; rwa [e] at this, HB2.out⟩

set_option maxRecDepth 100000 in
set_option maxHeartbeats 4000000 in
theorem walk_inner (L n₀ : Nat) (U : Option Nat) (Fj A C b : Nat) (K tot : List Nat) (un : Nat → List Nat) (hbn : b < n₀ ∧ A < n₀) (hKN : K.length ≤ 1000) (J : List Nat → World → Prop) (T : World → Prop) (hT : ∀ W W', T W → Below n₀ W W' → T W')
    (ih : ∀ k ∈ K, ∀ (n : Nat) (pre : List Nat) (W : World), pre ++ un k <+: tot → T W → J pre W → CallsIn Fence.wide n Ybaz.prog 53 #[.pointer (some ⟨k, 0, none⟩), .func (.func 30) #[] #[], .func (.yield L) #[] #[]] W fun e W' => e = .returned (.bool true) ∧ J (pre ++ un k) W' ∧ Below n₀ W W')
    (n : Nat) (pre : List Nat) (W : World) (hpre : pre ++ K.flatMap un <+: tot) (hTW : T W) (hL : InnerAt W U Fj A C K b) (hJ : J pre W) :
    CallsIn Fence.wide n Ybaz.prog 53 #[.pointer (some ⟨b, 0, none⟩), .func (.func 30) #[] #[], .func (.yield L) #[] #[]] W fun e W' => e = .returned (.bool true) ∧ J (pre ++ K.flatMap un) W' ∧ Below n₀ W W' := by
  have hdd : ∀ k : Nat, (Fence.wide.depth.isSome = true → 1 ≤ k) := fun k h => by cases h
  have h53 : Fence.wide.fn 53 := trivial
  have h30 : Fence.wide.fn 30 := trivial
  obtain ⟨v9, c9⟩ := hL.node.c9
  have c1 := hL.c1
  obtain ⟨N, hN⟩ : ∃ N, Hid (N = K.length) := ⟨_, rfl⟩
  rw [← hN.out] at c1 hKN
  have HL : Hid (InnerAt W U Fj A C K b) := hL
  have HPRE : Hid (pre ++ K.flatMap un <+: tot) := hpre
  have HIH : Hid (∀ k ∈ K, ∀ (n : Nat) (pre : List Nat) (W : World), pre ++ un k <+: tot → T W → J pre W → CallsIn Fence.wide n Ybaz.prog 53 #[.pointer (some ⟨k, 0, none⟩), .func (.func 30) #[] #[], .func (.yield L) #[] #[]] W fun e W' => e = .returned (.bool true) ∧ J (pre ++ un k) W' ∧ Below n₀ W W') := ih
  have HJ0 : Hid (J pre W ∧ T W) := ⟨hJ, hTW⟩
  have HT : Hid (∀ W W', T W → Below n₀ W W' → T W') := hT
  have q2 := fun (w : World) (a : Option Addr) (n c n' c' : Nat) => Lib.run_eql_slice_nil (P := Ybaz.prog) w _ _ a n c n' c' Ybaz.underlying35
  clear hL ih hJ hTW hT hpre
  refine callsIn_of_wp Ybaz.func53 rfl h53 ?_ rfl
  simp only [Ybaz.ntmps53, List.size_toArray, List.length_cons, List.length_nil, Nat.reduceAdd, Nat.reduceSub, Array.replicate_succ, Array.replicate_zero, List.push_toArray, List.append_toArray, List.nil_append, List.cons_append]
  gi_wp2_with ((try refine ⟨hdd _, ?_⟩); gi_at_call 30; refine (callsIn_wide.2 (none30 _ _)).mono ?_; rintro e W1 ⟨rfl, hw⟩; obtain rfl : W = W1 := hw.symm)
  gi_loopw [57] (fun v wr => ∃ i : Nat, i ≤ N ∧ v = .int .i64 i ∧ J (pre ++ (K.take i).flatMap un) wr ∧ Below n₀ W wr) (fun v _ => N - (intOf v).toNat)
  case atStart => exact ⟨0, Nat.zero_le _, rfl, by rw [List.take_zero, List.flatMap_nil, List.append_nil]; exact HJ0.out.1, Below.refl _ _⟩
  case round =>
    rename World => W2
    obtain ⟨i, hi, rfl, hJ2, hB2⟩ := hrel
    have HJ2 : Hid (J (pre ++ (K.take i).flatMap un) W2) := hJ2
    have HB2 : Hid (Below n₀ W W2) := hB2
    clear hJ2 hB2
    by_cases hlt : i < N
    · have hil : i < K.length := by rw [← hN.out]; exact hlt
      obtain ⟨k, hk⟩ : ∃ k, K[i]? = some k := ⟨_, List.getElem?_eq_getElem hil⟩
      have hkm : k ∈ K := List.mem_of_getElem? hk
      have l1 : (i : Int) < (N : Int) := by omega
      have a1 : W2.cell? ⟨A, i, none⟩ = some (.pointer (some ⟨k, 0, none⟩)) := (HB2.out.cell (p := ⟨A, i, none⟩) hbn.2).trans (HL.out.ka.cell i _ (by rw [List.getElem?_map, hk]; rfl))
      have HK : Hid (K[i]? = some k) := hk
      have hrec := HIH.out k hkm (n - 1) _ W2 (by
        have e : (K.take (i + 1)).flatMap un = (K.take i).flatMap un ++ un k := by rw [List.take_add_one, hk, List.flatMap_append]; simp
        rw [List.append_assoc, ← e]
        refine ((List.prefix_append_right_inj pre).2 ?_).trans HPRE.out
        refine ⟨(K.drop (i + 1)).flatMap un, ?_⟩
        rw [← List.flatMap_append, List.take_append_drop]) (HT.out _ _ HJ0.out.2 HB2.out) HJ2.out
      have HREC : Hid (CallsIn Fence.wide (n - 1) Ybaz.prog 53 #[.pointer (some ⟨k, 0, none⟩), .func (.func 30) #[] #[], .func (.yield L) #[] #[]] W2 fun e W' => e = .returned (.bool true) ∧ J (pre ++ (K.take i).flatMap un ++ un k) W' ∧ Below n₀ W2 W') := hrec
      clear hrec hk hkm hil
      gi_wp2_with ((try refine ⟨hdd _, ?_⟩); gi_at_call 53; refine HREC.out.mono ?_; rintro e W3 ⟨rfl, hJ3, hB3⟩; have HJ3 : Hid (J (pre ++ (K.take i).flatMap un ++ un k) W3) := hJ3; have HB3 : Hid (Below n₀ W2 W3) := hB3; clear hJ3 hB3)
      go_roundw
      case rel =>
        refine ⟨i + 1, by omega, by go_num, ?_, HB2.out.trans HB3.out⟩
        have e : (K.take (i + 1)).flatMap un = (K.take i).flatMap un ++ un k := by rw [List.take_add_one, HK.out, List.flatMap_append]; simp
        rw [e, ← List.append_assoc]; exact HJ3.out
      case measure => simp [intOf]; omega
    · have him : N = i := by omega
      subst him
      gi_wp2
      go_ret
      have e : K.take N = K := by rw [hN.out, List.take_length]
      exact ⟨rfl, by have := HJ2.out; rwa [e] at this, HB2.out⟩

/-- walk, whatever the level. -/
theorem walk_in (L n₀ : Nat) (slots : Nat → Int) (G : Gh) (root : Nat) (hn : ∀ x, G.R x ≠ none → x < n₀) (J : List Nat → World → Prop)
    (hY : ∀ m pre x W, J pre W → pre ++ [x] <+: G.flat → YieldAt Fence.wide m Ybaz.prog L #[runOf slots x] W fun e W' => e = .returned (.bool true) ∧ J (pre ++ [x]) W' ∧ Below n₀ W W') :
    ∀ (l b n : Nat) (pre : List Nat) (W : World), l ≤ G.D → b ∈ G.L l → pre ++ under G l b <+: G.flat → (Inv W G none root ∧ ∀ k ∈ G.flat, k < n₀ ∧ W.cell? ⟨k, 8, none⟩ = some (.int .i64 (slots k))) → J pre W →
      CallsIn Fence.wide n Ybaz.prog 53 #[.pointer (some ⟨b, 0, none⟩), .func (.func 30) #[] #[], .func (.yield L) #[] #[]] W fun e W' => e = .returned (.bool true) ∧ J (pre ++ under G l b) W' ∧ Below n₀ W W'
  | 0, b, n, pre, W, hl, hb, hp, hT, hJ => by
    obtain ⟨o1, o2, _⟩ := hT.1.shape.own 0 hl b hb
    have hsub : ∀ k ∈ G.J b, k ∈ G.flat := fun k hk => List.mem_flatMap.2 ⟨b, hb, hk⟩
    exact walk_leaf L n₀ slots _ _ _ _ b (G.J b) G.flat ⟨hn b (by rw [o1]; simp), hn _ (by rw [o2]; simp)⟩ J hY n pre W hp (hT.1.leaf b hb) (fun k hk => hT.2 k (hsub k hk)) hJ
  | l + 1, b, n, pre, W, hl, hb, hp, hT, hJ => by
    obtain ⟨o1, o2, _⟩ := hT.1.shape.own (l + 1) hl b hb
    have hK := (hT.1.shape.inner l (by omega) b hb).2.1
    exact walk_inner L n₀ _ _ _ _ b (G.K b) G.flat (under G l) ⟨hn b (by rw [o1]; simp), hn _ (by rw [o2]; simp)⟩ (by simp [ov] at hK; omega) J (fun W => Inv W G none root ∧ ∀ k ∈ G.flat, k < n₀ ∧ W.cell? ⟨k, 8, none⟩ = some (.int .i64 (slots k)))
      (fun W W' h hB => ⟨h.1.below hB hn, fun k hk => ⟨(h.2 k hk).1, (hB.cell (p := ⟨k, 8, none⟩) (h.2 k hk).1).trans (h.2 k hk).2⟩⟩)
      (fun k hk n pre W hp' hT' hJ' => walk_in L n₀ slots G root hn J hY l k n pre W (by omega) (hT.1.shape.kid l (by omega) b k hb hk) hp' hT' hJ') n pre W hp hT (hT.1.inner l (by omega) b hb) hJ
end Go.Proofs.YbulkdxqmGreatFmt
