/- LawS6218AWhole: anyOf.holds by its contract. -/
import Derived.Test.YbulkdxteATerm
namespace Go.Proofs.Ybulkdxte
set_option linter.unusedVariables false
open Go.RowKit
attribute [local go_sem ↓] Go.wp_at_zero Go.wp_at_succ

/-- How many terms are asked. -/
def askedN : List Bool → Nat
  | [] => 0
  | true :: _ => 1
  | false :: l => askedN l + 1
theorem asked_at : ∀ (l : List Bool) (j : Nat), (∀ k, k < j → l[k]? = some false) → l[j]? = some true → askedN l = j + 1 ∧ l.any id = true
  | [], j, _, h => by simp at h
  | true :: l, 0, _, _ => by simp [askedN]
  | false :: l, 0, _, h => by simp at h
  | true :: l, j + 1, hk, _ => by have := hk 0 (by omega); simp at this
  | false :: l, j + 1, hk, h => by
    obtain ⟨h1, h2⟩ := asked_at l j (fun k hk' => by have := hk (k + 1) (by omega); simpa using this) (by simpa using h)
    exact ⟨by simp [askedN, h1], by simpa using h2⟩
theorem asked_none : ∀ (l : List Bool), (∀ k, k < l.length → l[k]? = some false) → askedN l = l.length ∧ l.any id = false
  | [], _ => by simp [askedN]
  | true :: l, hk => by have := hk 0 (by simp); simp at this
  | false :: l, hk => by
    obtain ⟨h1, h2⟩ := asked_none l (fun k hk' => by have := hk (k + 1) (by simpa using hk'); simpa using this)
    exact ⟨by simp [askedN, h1], by simpa using h2⟩

/-- The terms as the law lays them: row tb, term j in block T0 + j. -/
structure Terms (W : World) (ans : List Bool) (tb T0 sb lb eb : Nat) : Prop where
  row : ∀ j, j < ans.length → W.cell? ⟨tb, j, none⟩ = some (.iface 33 (.pointer (some ⟨T0 + j, 0, none⟩)))
  a : ∀ j b, ans[j]? = some b → W.cell? ⟨T0 + j, 0, none⟩ = some (.bool b)
  i : ∀ j, j < ans.length → W.cell? ⟨T0 + j, 1, none⟩ = some (.int .i64 (j : Int))
  s : ∀ j, j < ans.length → W.cell? ⟨T0 + j, 2, none⟩ = some (.pointer (some ⟨sb, 0, none⟩))
  l : ∀ j, j < ans.length → W.cell? ⟨T0 + j, 3, none⟩ = some (.pointer (some ⟨lb, 0, none⟩))

/-- How the world stands while the terms are asked. -/
structure Ask (H : Nat) (W wr : World) (lb lg j : Nat) (lv : Value) : Prop where
  log : wr.heap[lb]? = some (.cells #[lv] 23 (0, 0))
  own : wr.ownsRow H 3 1 lv j (upTo j)
  at' : ∀ k, lv.ownBlock = some k → k = lg ∨ W.heap.size ≤ k
  blk : ∀ b, b < W.heap.size → b ≠ lb → b ≠ lg → wr.heap[b]? = W.heap[b]?
  bel : Below H W wr

theorem Ask.step {H : Nat} {W wr w' : World} {lb lg j : Nat} {lv lv' : Value} (h : Ask H W wr lb lg j lv) (hl : w'.heap[lb]? = some (.cells #[lv'] 23 (0, 0))) (ho : w'.ownsRow H 3 1 lv' (j + 1) (upTo (j + 1)))
    (ha : lv'.ownBlock = lv.ownBlock ∨ ∃ k, lv'.ownBlock = some k ∧ wr.heap.size ≤ k) (hk : ∀ b, b < wr.heap.size → b ≠ lb → lv.ownBlock ≠ some b → w'.heap[b]? = wr.heap[b]?) (hb : Below H wr w') : Ask H W w' lb lg (j + 1) lv' := by
  have hs := h.bel.size
  refine ⟨hl, ho, fun k hk => ?_, fun b h1 h2 h3 => ?_, h.bel.trans hb⟩
  · rcases ha with e | ⟨k', e, hk'⟩
    · exact h.at' k (e.symm.trans hk)
    · rw [e] at hk; cases hk; exact .inr (by omega)
  · rw [hk b (by omega) h2 (fun e => by rcases h.at' b e with rfl | h4; exact h3 rfl; omega)]
    exact h.blk b h1 h2 h3

/-- The names that a text invokes methods by, in order (a string with a slash is not typed here). -/
def invName (o : Oper) : List String :=
  match o.op with
  | .call c => (match c.callee with
    | .invoke _ m => [m]
    | _ => [])
  | _ => []
def invNames : Code → List String
  | .region _ ops _ => ops.toList.flatMap invName
  | .seq a b => invNames a ++ invNames b
  | .cond _ a b => invNames a ++ invNames b
  | .block _ b => invNames b
  | .loop b => invNames b
  | _ => []
theorem method_holds (x : Addr) (w : World) : (method 197 33 (.pointer (some x)) ((invNames (Yba.f6.body.getD .skip)).headD "")).run Yba.prog w = .ok (30, .pointer (some x)) w := by kernel_rfl

set_option maxHeartbeats 2000000 in
theorem any_holds (ans : List Bool) (tb T0 sb lb eb lg H : Nat) (lv : Value) (W : World) (hn : ans.length ≤ 65536) (hT : Terms W ans tb T0 sb lb eb) (hH : H ≤ W.heap.size) (hlb : H ≤ lb) (hA : Ask H W W lb lg 0 lv)
    (d1 : tb ≠ lb) (d2 : tb ≠ lg) (d3 : tb < W.heap.size) (d4 : lb < T0) (d5 : lg < T0) (d6 : T0 + ans.length ≤ W.heap.size) (d7 : lg ≠ lb) :
    Calls Yba.prog 6 #[.slice (some ⟨tb, 0, none⟩) ans.length ans.length, .pointer (some ⟨sb, 0, none⟩)] W fun e w' => e = .returned (.bool (ans.any id)) ∧ ∃ lv', Ask H W w' lb lg (askedN ans) lv' := by
  obtain ⟨n, hnn⟩ : ∃ n, n = ans.length := ⟨_, rfl⟩
  rw [← hnn]
  rw [← hnn] at hn d6
  have HN : Hid (n = ans.length) := hnn
  clear hnn
  have hm := method_holds
  simp only [Yba.f6, Option.getD_some, invNames, invName, List.flatMap_cons, List.flatMap_nil, List.append_nil, List.nil_append, List.headD_cons] at hm
  go_enter Yba.func6, Yba.ntmps6
  go_wp2
  go_loopw [9] (fun i wr => ∃ j : Nat, j ≤ n ∧ i = .int .i64 j ∧ (∀ k, k < j → ans[k]? = some false) ∧ ∃ lv', Ask H W wr lb lg j lv') (fun i _ => n - (intOf i).toNat)
  case atStart => exact ⟨0, Nat.zero_le _, rfl, fun k hk => absurd hk (Nat.not_lt_zero _), lv, hA⟩
  case round =>
    rename World => w1
    obtain ⟨j, hj, rfl, hf, lv1, hS⟩ := hrel
    by_cases hlt : j < n
    · have hnn := HN.out
      obtain ⟨b, hb⟩ : ∃ b, ans[j]? = some b := ⟨ans[j]'(by omega), List.getElem?_eq_getElem (by omega)⟩
      have hsz := hS.bel.size
      have kc : ∀ (x o : Nat) u, x < W.heap.size → x ≠ lb → x ≠ lg → W.cell? ⟨x, o, none⟩ = some u → w1.cell? ⟨x, o, none⟩ = some u := fun x o u h1 h2 h3 hc => (World.cell?_of_block (w := W) (hS.blk x h1 h2 h3)).trans hc
      have c := kc tb j _ d3 d1 d2 (hT.row j (by omega))
      have c0 := kc (T0 + j) 0 _ (by omega) (by omega) (by omega) (hT.a j b hb)
      have c1 := kc (T0 + j) 1 _ (by omega) (by omega) (by omega) (hT.i j (by omega))
      have c2 := kc (T0 + j) 2 _ (by omega) (by omega) (by omega) (hT.s j (by omega))
      have c3 := kc (T0 + j) 3 _ (by omega) (by omega) (by omega) (hT.l j (by omega))
      have ne : ∀ k, lv1.ownBlock = some k → k ≠ T0 + j ∧ k ≠ lb := fun k hk => by rcases hS.at' k hk with rfl | h4 <;> constructor <;> omega
      have HS : Hid (Ask H W w1 lb lg j lv1) := hS
      clear hS kc hnn hT hA
      cases b
      · go_wp2_with (first
          | (go_at_call 30; refine (term_holds (T0 + j) sb lb eb H j false lv1 w1 (by omega) c0 c1 c2 c3 HS.out.log (by omega) ne (by omega) hlb HS.out.own).mono ?_; rintro e w2 ⟨rfl, lv2, g1, g2, g3, g4, g5⟩)
          | go_in)
        go_roundw
        case rel => exact ⟨j + 1, by omega, by go_num, fun k hk => by by_cases e : k = j; (subst e; exact hb); exact hf k (by omega), lv2, HS.out.step g1 g2 g3 g4 g5⟩
        case measure => simp [intOf]; omega
      · go_wp2_with (first
          | (go_at_call 30; refine (term_holds (T0 + j) sb lb eb H j true lv1 w1 (by omega) c0 c1 c2 c3 HS.out.log (by omega) ne (by omega) hlb HS.out.own).mono ?_; rintro e w2 ⟨rfl, lv2, g1, g2, g3, g4, g5⟩)
          | go_in)
        go_ret
        have hq := asked_at ans j hf hb
        exact ⟨by rw [hq.2]; rfl, lv2, by rw [hq.1]; exact HS.out.step g1 g2 g3 g4 g5⟩
    · have hje : j = n := by omega
      subst hje
      clear hT hA
      go_wp2
      go_ret
      have hq := asked_none ans (by rw [← HN.out]; exact hf)
      exact ⟨by rw [hq.2]; rfl, lv1, by rw [hq.1, ← HN.out]; exact hS⟩
end Go.Proofs.Ybulkdxte
