/- LawS6216CWhole: the walk. -/
import Derived.Test.YbulkdxscCWalk
namespace Go.Proofs.Ybulkdxsc
set_option linter.unusedVariables false
open Go.RowKit Go.Maps Go.WideMaps Go.WideElems
attribute [local go_sem] run_store_float

theorem neq_nil153 (w : World) (a : Option Addr) (n c : Nat) : (binOp .neq 153 (.slice a n c) (.slice none 0 0)).run Yba.prog w = .ok (.bool (!a.isNone)) w := run_neq_slice_nil_any w 153 9 a n c 0 0 Yba.underlying153
theorem eql_nil156 (w : World) (r : Option Nat) : (binOp .eql 156 (.map r) (.map none)).run Yba.prog w = .ok (.bool r.isNone) w := run_eql_map_nil w 156 9 3 r Yba.underlying156
theorem info155 : (Yba.prog.info? 155).map (fun i => (i.zero, i.size, i.bytes)) = some (some (.agg #[.string { data := #[] }, .float .f64 0, .float .f64 0, .float .f64 0, .bool false, .int .i64 0]), 6, 56) := by kernel_rfl
/-- The cells of a new slice of nodes. -/
def zeroCell (j : Nat) : Value := if j % 6 = 0 then .string { data := #[] } else if j % 6 = 4 then .bool false else if j % 6 = 5 then .int .i64 0 else .float .f64 0
def nodeCells (n : Nat) : Array Value := madeCells #[.string { data := #[] }, .float .f64 0, .float .f64 0, .float .f64 0, .bool false, .int .i64 0] (n * 6)
theorem make_nodes (n : Nat) (hn : n ≤ 4096) (w : World) : (Instr.makeSlice 129 (.int .i64 (n : Int)) (.int .i64 (n : Int))).run Yba.prog w = .ok (.slice (some ⟨w.heap.size, 0, none⟩) n n) (w.alloc (.cells (nodeCells n) 155)) := by
  obtain ⟨i, hi, hzz⟩ := Option.map_eq_some_iff.1 info155
  simp only [Prod.mk.injEq] at hzz
  obtain ⟨hz, hs, hb⟩ := hzz
  have hr := run_make (P := Yba.prog) w 129 155 i _ Yba.underlying129 hi hz .i64 .i64 n n (by omega) (Int.le_refl _) (by rw [hb]; omega) (by omega)
  simp only [Int.toNat_natCast, hs, Value.cells] at hr
  exact hr

def adv (i : Nat) : Bool := (i : Int) % 2 == 1
/-- The new slice of nodes behind k rounds. -/
structure Fill (w wr : World) (n : Nat) (S : Nat → ByteArray) (F : Nat → Nat) (k : Nat) : Prop where
  row : ∃ g : Nat → Value, wr.rowIs w.heap.size 155 (n * 6) g ∧ ∀ i, i < k → g (i * 6) = .string (S i) ∧ g (i * 6 + 1) = .float .f64 (F i) ∧ g (i * 6 + 2) = .float .f64 0 ∧ g (i * 6 + 3) = .float .f64 0 ∧ g (i * 6 + 4) = .bool (adv i) ∧ g (i * 6 + 5) = .int .i64 i
  bel : Below w.heap.size w wr
  sz : w.heap.size + 1 ≤ wr.heap.size

theorem Fill.start (w : World) (n : Nat) (S : Nat → ByteArray) (F : Nat → Nat) : Fill w (w.alloc (.cells (nodeCells n) 155)) n S F 0 := by
  refine ⟨⟨fun j => (nodeCells n).getD j (.bool false), ?_, fun i hi => by omega⟩, (Below.refl _ _).alloc (Nat.le_refl _) _, by simp⟩
  have hs : (nodeCells n).size = n * 6 := by simp [nodeCells, size_madeCells]
  have := World.rowIs_alloc w (nodeCells n) 155 (fun j => (nodeCells n).getD j (.bool false)) (fun j hj => by simp [Array.getD, hj])
  rw [hs] at this
  exact this

theorem Fill.step {w wr : World} {n : Nat} {S : Nat → ByteArray} {F : Nat → Nat} {k : Nat} (h : Fill w wr n S F k) :
    Fill w ((((((wr.setCell ⟨w.heap.size, k * 6, none⟩ (.string (S k))).setCell ⟨w.heap.size, k * 6 + 1, none⟩ (.float .f64 (F k))).setCell ⟨w.heap.size, k * 6 + 2, none⟩ (.float .f64 0)).setCell ⟨w.heap.size, k * 6 + 3, none⟩ (.float .f64 0)).setCell ⟨w.heap.size, k * 6 + 4, none⟩ (.bool (adv k))).setCell ⟨w.heap.size, k * 6 + 5, none⟩ (.int .i64 k)) n S F (k + 1) := by
  obtain ⟨⟨g, hg, hc⟩, hb, hz⟩ := h
  refine ⟨⟨_, (((((hg.set _ _).set _ _).set _ _).set _ _).set _ _).set _ _, fun i hi => ?_⟩, (((((hb.setCell (by simp) _).setCell (by simp) _).setCell (by simp) _).setCell (by simp) _).setCell (by simp) _).setCell (by simp) _, by simpa using hz⟩
  by_cases hik : i = k
  · subst hik
    refine ⟨?_, ?_, ?_, ?_, ?_, ?_⟩ <;> simp
  · obtain ⟨h0, h1, h2, h3, h4, h5⟩ := hc i (by omega)
    refine ⟨?_, ?_, ?_, ?_, ?_, ?_⟩
    · rw [if_neg (by omega), if_neg (by omega), if_neg (by omega), if_neg (by omega), if_neg (by omega), if_neg (by omega)]; exact h0
    · rw [if_neg (by omega), if_neg (by omega), if_neg (by omega), if_neg (by omega), if_neg (by omega), if_neg (by omega)]; exact h1
    · rw [if_neg (by omega), if_neg (by omega), if_neg (by omega), if_neg (by omega), if_neg (by omega), if_neg (by omega)]; exact h2
    · rw [if_neg (by omega), if_neg (by omega), if_neg (by omega), if_neg (by omega), if_neg (by omega), if_neg (by omega)]; exact h3
    · rw [if_neg (by omega), if_neg (by omega), if_neg (by omega), if_neg (by omega), if_neg (by omega), if_neg (by omega)]; exact h4
    · rw [if_neg (by omega), if_neg (by omega), if_neg (by omega), if_neg (by omega), if_neg (by omega), if_neg (by omega)]; exact h5

/-- The nodes, as the loops behind read them. -/
theorem Fill.node {w wr : World} {n : Nat} {S : Nat → ByteArray} {F : Nat → Nat} {k : Nat} (h : Fill w wr n S F k) (hk : k ≤ n) (i : Nat) (hi : i < k) : nodeAt wr w.heap.size i (S i) (F i) (adv i) := by
  obtain ⟨⟨g, hg, hc⟩, _, _⟩ := h
  obtain ⟨h0, h1, h2, h3, h4, h5⟩ := hc i hi
  refine ⟨?_, ?_, ?_, ?_, ?_, ?_⟩
  · rw [hg.cell (by omega), h0]
  · rw [hg.cell (by omega), h1]
  · rw [hg.cell (by omega), h2]
  · rw [hg.cell (by omega), h3]
  · rw [hg.cell (by omega), h4]
  · rw [hg.cell (by omega), h5]

theorem nodeAt.of_block {w w' : World} {nb i : Nat} {s : ByteArray} {f : Nat} {ad : Bool} (h : nodeAt w nb i s f ad) (e : w'.heap[nb]? = w.heap[nb]?) : nodeAt w' nb i s f ad := by
  have c : ∀ j, w'.cell? ⟨nb, j, none⟩ = w.cell? ⟨nb, j, none⟩ := fun j => World.cell?_of_block (a := ⟨nb, j, none⟩) e
  unfold nodeAt at h ⊢
  simp only [c]
  exact h
theorem nodeAt.alloc {w : World} {nb i : Nat} {s : ByteArray} {f : Nat} {ad : Bool} (h : nodeAt w nb i s f ad) (hn : nb < w.heap.size) (o : Obj) : nodeAt (w.alloc o) nb i s f ad := h.of_block (Below.heap_alloc _ _ _ hn)

theorem Below.drewN' (w : World) (n : Nat) : Below w.heap.size w (w.drewN n) := ⟨rfl, rfl, rfl, Nat.le_refl _, fun _ _ => rfl⟩
theorem num_inv (l : Nat) (v : Value) (ps : List MemPlace) (h : plainElem Yba.prog 3 v = some (numD l, ps)) : v = .int .i64 l := by
  obtain ⟨a, rfl, hz, _⟩ := plainElem_int_inv Yba.underlying3 h
  simp [numD] at hz
  rw [hz.1]
/-- The scenario, as laid. -/
def scenCells (w : World) (n : Nat) : Array Value := #[.float .f64 0, .int .i64 n, .float .f64 0, .string { data := #[] }, .nilIface, .pointer none, .pointer none, .float .f64 0, .slice none 0 0, .slice none 0 0, .pointer none, .pointer none, .slice none 0 0, .slice none 0 0, .pointer none, .pointer none, .pointer none, .slice none 0 0, .pointer none, .pointer none, .slice (some ⟨w.heap.size, 0, none⟩) n n]
structure Ready (w wx : World) (n : Nat) (S : Nat → ByteArray) (F : Nat → Nat) (sb mb : Nat) (f : Lit → Option (DataW Unit)) : Prop where
  node : ∀ i, i < n → nodeAt wx w.heap.size i (S i) (F i) (adv i)
  s1 : wx.cell? ⟨sb, 1, none⟩ = some (.int .i64 n)
  s20 : wx.cell? ⟨sb, 20, none⟩ = some (.slice (some ⟨w.heap.size, 0, none⟩) n n)
  mp : MapAt wx Yba.prog 9 (plainElem Yba.prog 3) mb n (cnt S n n) f
  at' : ∀ s, f (keyS s) = (lst S s n).map numD
  bel : Below w.heap.size w wx
  lo : w.heap.size < sb ∧ sb < mb ∧ mb < wx.heap.size

theorem Ready.start {w wr w' : World} {n : Nat} {S : Nat → ByteArray} {F : Nat → Nat} {f : Lit → Option (DataW Unit)} (h : Fill w wr n S F n) (hf : Idx (wr.alloc (.cells (scenCells w n) 131)) w' S n f) : Ready w w' n S F wr.heap.size (wr.heap.size + 1) f := by
  have hz := h.sz
  have hs := hf.sz
  have hm := hf.mp
  simp only [World.size_alloc] at hs hm
  have hb : ∀ j, j < wr.heap.size + 1 → w'.heap[j]? = (wr.alloc (.cells (scenCells w n) 131)).heap[j]? := fun j hj => hf.bel.block j (by simpa using hj)
  refine ⟨fun i hi => ?_, ?_, ?_, hm, hf.at', ?_, ?_⟩
  · exact ((h.node (Nat.le_refl _) i hi).alloc (by omega) _).of_block (hb _ (by omega))
  · rw [World.cell?_of_block (w := wr.alloc (.cells (scenCells w n) 131)) (hb _ (by simp))]; simp [scenCells]
  · rw [World.cell?_of_block (w := wr.alloc (.cells (scenCells w n) 131)) (hb _ (by simp))]; simp [scenCells]
  · exact (h.bel.alloc (by omega) _).trans (hf.bel.mono (by simp; omega))
  · omega
theorem Ready.later {w wx wy : World} {n : Nat} {S : Nat → ByteArray} {F : Nat → Nat} {sb mb : Nat} {f : Lit → Option (DataW Unit)} (h : Ready w wx n S F sb mb f) (hb : Below wx.heap.size wx wy) : Ready w wy n S F sb mb f := by
  have hl := h.lo
  have hs := hb.size
  exact ⟨fun i hi => (h.node i hi).of_block (hb.block _ (by omega)), by rw [hb.cell (by simp; omega)]; exact h.s1, by rw [hb.cell (by simp; omega)]; exact h.s20, h.mp.of_block (hb.block _ (by omega)), h.at', h.bel.trans (hb.mono (by omega)), by omega⟩

set_option maxRecDepth 100000 in
set_option maxHeartbeats 1000000 in
theorem law_A (b off n cap : Nat) (S : Nat → ByteArray) (tb toff lt ct : Nat) (T : Nat → Nat) (w : World)
    (hn0 : 0 < n) (hn : n ≤ 4096) (hb : b < w.heap.size) (hS : ∀ i, i < n → w.cell? ⟨b, off + i, none⟩ = some (.string (S i))) (hSz : ∀ i, (S i).size ≤ maxLen)
    (ht0 : 0 < lt) (ht : lt ≤ maxLen) (htb : tb < w.heap.size) (hT : ∀ i, i < lt → w.cell? ⟨tb, toff + i, none⟩ = some (.float .f64 (T i))) :
    Calls Yba.prog 5 #[.slice (some ⟨b, off, none⟩) n cap, .slice (some ⟨tb, toff, none⟩) lt ct] w fun e w' => e = .returned (.bool true) ∧ Below w.heap.size w w' := by
  unfold maxLen at ht
  have hmk := make_nodes n hn
  have hq0 := neq_nil153
  go_enter Yba.func5, Yba.ntmps5
  go_wp2
  go_loopw [6] (fun i wr => ∃ (k : Nat), k ≤ n ∧ i = .int .i64 k ∧ Fill w wr n S (fun i => T (i % lt)) k) (fun i _ => n - (intOf i).toNat)
  case atStart => exact ⟨0, Nat.zero_le _, rfl, Fill.start w n S _⟩
  case round =>
    rename World => w1
    obtain ⟨k, hk, rfl, hI⟩ := hrel
    have hTx : w1.cell? ⟨tb, toff + k % lt, none⟩ = some (.float .f64 (T (k % lt))) := (hI.bel.cell (by exact htb)).trans (hT _ (Nat.mod_lt _ ht0))
    have hkl : 0 ≤ (k : Int) % (lt : Int) ∧ (k : Int) % (lt : Int) < (lt : Int) := ⟨Int.emod_nonneg _ (by omega), Int.emod_lt_of_pos _ (by omega)⟩
    by_cases hlt : k < n
    · have hSx := (hI.bel.cell (p := ⟨b, off + k, none⟩) (by exact hb)).trans (hS k hlt)
      have HI : Hid (Fill w w1 n S (fun i => T (i % lt)) k) := hI
      obtain ⟨⟨g, hg, _⟩, _, _⟩ := hI
      have e0 := hg.cell (i := k * 6) (by omega)
      have e1 := hg.cell (i := k * 6 + 1) (by omega)
      have e2 := hg.cell (i := k * 6 + 2) (by omega)
      have e3 := hg.cell (i := k * 6 + 3) (by omega)
      have e4 := hg.cell (i := k * 6 + 4) (by omega)
      have e5 := hg.cell (i := k * 6 + 5) (by omega)
      have f0 := hg.frozen (k * 6)
      have f1 := hg.frozen (k * 6 + 1)
      have f2 := hg.frozen (k * 6 + 2)
      have f3 := hg.frozen (k * 6 + 3)
      have f4 := hg.frozen (k * 6 + 4)
      have f5 := hg.frozen (k * 6 + 5)
      clear hg hmk hq0
      go_wp2
      go_roundw
      case rel => exact ⟨k + 1, by omega, by go_num, HI.out.step⟩
      case measure => simp [intOf]; omega
    · have hke : k = n := by omega
      subst hke
      have HI : Hid (Fill w w1 k S (fun i => T (i % lt)) k) := hI
      have hz := hI.sz
      clear hI hmk hq0 hTx hkl
      have hq1 := eql_nil156
      go_wp2_with (go_at_call 9; refine (index_any _ w.heap.size k S (fun i => T (i % lt)) adv _ hn hSz ?_ ?_ ?_ ?_).mono ?_; (go_simp); (simp; omega); (simp); (intro i hi; exact (HI.out.node (Nat.le_refl _) i hi).alloc (by omega) _); rintro e w' ⟨rfl, f, hf⟩; have hR : Hid (Ready w w' k S (fun i => T (i % lt)) w1.heap.size (w1.heap.size + 1) f) := Ready.start HI.out hf; have r1 := hR.out.s1; have r20 := hR.out.s20)
      go_loopw [10, 11] (fun d i wr => ∃ (j : Nat), j ≤ k ∧ i = .int .i64 j ∧ d = .int .i64 (cnt S k j) ∧ Below w'.heap.size w' wr) (fun _ i _ => k - (intOf i).toNat)
      case atStart => exact ⟨0, Nat.zero_le _, rfl, rfl, Below.refl _ _⟩
      case round =>
        rename World => w2
        obtain ⟨j, hj, rfl, rfl, hbx⟩ := hrel
        have hR2 : Hid (Ready w w2 k S (fun i => T (i % lt)) w1.heap.size (w1.heap.size + 1) f) := hR.out.later hbx
        have hcl := cnt_le S k j
        clear r1 r20
        by_cases hjl : j < k
        · have q1 := hR2.out.s20
          obtain ⟨q2, _, _, _, _, q3⟩ := hR2.out.node j hjl
          have hSw : ∀ x, x < k → w2.cell? ⟨b, off + x, none⟩ = some (.string (S x)) := fun x hx => (hR2.out.bel.cell (by exact hb)).trans (hS x hx)
          have HSw : Hid (∀ x, x < k → w2.cell? ⟨b, off + x, none⟩ = some (.string (S x))) := hSw
          have q4 := hSw j hjl
          have q5 : (0 : Int) ≤ (j : Int) := by omega
          have q6 : (j : Int) < (k : Int) := by omega
          obtain ⟨l, hl⟩ := lst_some S (S j) k j hjl rfl
          have hll := (lst_lt S (S j) k l hl).1
          have q7 := fun nq => (hR2.out.later (Below.drewN' w2 nq)).mp.look2_hit key9 Yba.underlying156 zero3 (plainElem_int Yba.underlying3 (by decide)) (key_ok (hSz j)) (d := numD l) (by rw [hR2.out.at', hl]; rfl) (num_inv l)
          have HS : Hid (∀ i, i < k → w.cell? ⟨b, off + i, none⟩ = some (.string (S i))) := hS
          have HL : Hid (lst S (S j) k = some l) := hl
          clear hS hSw hl
          by_cases hlj : l = j
          · have HC : Hid (cnt S k (j + 1) = cnt S k j + 1) := by show cnt S k j + (if lst S (S j) k = some j then 1 else 0) = _; rw [if_pos (by rw [HL.out, hlj])]
            have q8 : ((l : Int) == (j : Int)) = true := by simp [hlj]
            have HJ : Hid (l = j) := hlj
            clear hlj
            go_wp2
            go_quiet (fail)
            go_wp2_with (go_at_call 10; refine (clast_any b off k cap j S _ hjl hn ?_).mono ?_; (exact HSw.out); rintro e w3 ⟨l', hl', rfl, nq2, rfl⟩; obtain rfl : l' = l := Option.some.inj (hl'.symm.trans HL.out); rw [drewN2])
            go_roundw
            case rel => exact ⟨j + 1, by omega, by go_num, by rw [HC.out]; go_num, hbx.trans ((Below.drewN' w2 _).mono hbx.size)⟩
            case measure => simp [intOf]; omega
          · have HC : Hid (cnt S k (j + 1) = cnt S k j) := by show cnt S k j + (if lst S (S j) k = some j then 1 else 0) = _; rw [if_neg (by rw [HL.out]; intro e; exact hlj (Option.some.inj e))]; rfl
            have q8 : ((l : Int) == (j : Int)) = false := by simp; omega
            clear hlj
            go_wp2
            go_quiet (fail)
            go_wp2_with (go_at_call 10; refine (clast_any b off k cap j S _ hjl hn ?_).mono ?_; (exact HSw.out); rintro e w3 ⟨l', hl', rfl, nq2, rfl⟩; obtain rfl : l' = l := Option.some.inj (hl'.symm.trans HL.out); rw [drewN2])
            go_roundw
            case rel => exact ⟨j + 1, by omega, by go_num, by rw [HC.out], hbx.trans ((Below.drewN' w2 _).mono hbx.size)⟩
            case measure => simp [intOf]; omega
        · have hje : j = k := by omega
          subst hje
          have q1 := fun ty => hR2.out.mp.len Yba.underlying156 ty
          go_wp2
          go_ret
          exact ⟨by simp, hR2.out.bel⟩
set_option maxRecDepth 100000 in
set_option maxHeartbeats 1000000 in
theorem law_B (b off n cap : Nat) (S : Nat → ByteArray) (ta : Option Addr) (ct : Nat) (w : World)
    (hn0 : 0 < n) (hn : n ≤ 4096) (hb : b < w.heap.size) (hS : ∀ i, i < n → w.cell? ⟨b, off + i, none⟩ = some (.string (S i))) (hSz : ∀ i, (S i).size ≤ maxLen) :
    Calls Yba.prog 5 #[.slice (some ⟨b, off, none⟩) n cap, .slice ta 0 ct] w fun e w' => e = .returned (.bool true) ∧ Below w.heap.size w w' := by
  have hmk := make_nodes n hn
  have hq0 := neq_nil153
  go_enter Yba.func5, Yba.ntmps5
  go_wp2
  go_loopw [6] (fun i wr => ∃ (k : Nat), k ≤ n ∧ i = .int .i64 k ∧ Fill w wr n S (fun _ => 0) k) (fun i _ => n - (intOf i).toNat)
  case atStart => exact ⟨0, Nat.zero_le _, rfl, Fill.start w n S _⟩
  case round =>
    rename World => w1
    obtain ⟨k, hk, rfl, hI⟩ := hrel
    by_cases hlt : k < n
    · have hSx := (hI.bel.cell (p := ⟨b, off + k, none⟩) (by exact hb)).trans (hS k hlt)
      have HI : Hid (Fill w w1 n S (fun _ => 0) k) := hI
      obtain ⟨⟨g, hg, _⟩, _, _⟩ := hI
      have e0 := hg.cell (i := k * 6) (by omega)
      have e1 := hg.cell (i := k * 6 + 1) (by omega)
      have e2 := hg.cell (i := k * 6 + 2) (by omega)
      have e3 := hg.cell (i := k * 6 + 3) (by omega)
      have e4 := hg.cell (i := k * 6 + 4) (by omega)
      have e5 := hg.cell (i := k * 6 + 5) (by omega)
      have f0 := hg.frozen (k * 6)
      have f1 := hg.frozen (k * 6 + 1)
      have f2 := hg.frozen (k * 6 + 2)
      have f3 := hg.frozen (k * 6 + 3)
      have f4 := hg.frozen (k * 6 + 4)
      have f5 := hg.frozen (k * 6 + 5)
      clear hg hmk hq0
      go_wp2
      go_roundw
      case rel => exact ⟨k + 1, by omega, by go_num, HI.out.step⟩
      case measure => simp [intOf]; omega
    · have hke : k = n := by omega
      subst hke
      have HI : Hid (Fill w w1 k S (fun _ => 0) k) := hI
      have hz := hI.sz
      clear hI hmk hq0
      have hq1 := eql_nil156
      go_wp2_with (go_at_call 9; refine (index_any _ w.heap.size k S (fun _ => 0) adv _ hn hSz ?_ ?_ ?_ ?_).mono ?_; (go_simp); (simp; omega); (simp); (intro i hi; exact (HI.out.node (Nat.le_refl _) i hi).alloc (by omega) _); rintro e w' ⟨rfl, f, hf⟩; have hR : Hid (Ready w w' k S (fun _ => 0) w1.heap.size (w1.heap.size + 1) f) := Ready.start HI.out hf; have r1 := hR.out.s1; have r20 := hR.out.s20)
      go_loopw [10, 11] (fun d i wr => ∃ (j : Nat), j ≤ k ∧ i = .int .i64 j ∧ d = .int .i64 (cnt S k j) ∧ Below w'.heap.size w' wr) (fun _ i _ => k - (intOf i).toNat)
      case atStart => exact ⟨0, Nat.zero_le _, rfl, rfl, Below.refl _ _⟩
      case round =>
        rename World => w2
        obtain ⟨j, hj, rfl, rfl, hbx⟩ := hrel
        have hR2 : Hid (Ready w w2 k S (fun _ => 0) w1.heap.size (w1.heap.size + 1) f) := hR.out.later hbx
        have hcl := cnt_le S k j
        clear r1 r20
        by_cases hjl : j < k
        · have q1 := hR2.out.s20
          obtain ⟨q2, _, _, _, _, q3⟩ := hR2.out.node j hjl
          have hSw : ∀ x, x < k → w2.cell? ⟨b, off + x, none⟩ = some (.string (S x)) := fun x hx => (hR2.out.bel.cell (by exact hb)).trans (hS x hx)
          have HSw : Hid (∀ x, x < k → w2.cell? ⟨b, off + x, none⟩ = some (.string (S x))) := hSw
          have q4 := hSw j hjl
          have q5 : (0 : Int) ≤ (j : Int) := by omega
          have q6 : (j : Int) < (k : Int) := by omega
          obtain ⟨l, hl⟩ := lst_some S (S j) k j hjl rfl
          have hll := (lst_lt S (S j) k l hl).1
          have q7 := fun nq => (hR2.out.later (Below.drewN' w2 nq)).mp.look2_hit key9 Yba.underlying156 zero3 (plainElem_int Yba.underlying3 (by decide)) (key_ok (hSz j)) (d := numD l) (by rw [hR2.out.at', hl]; rfl) (num_inv l)
          have HS : Hid (∀ i, i < k → w.cell? ⟨b, off + i, none⟩ = some (.string (S i))) := hS
          have HL : Hid (lst S (S j) k = some l) := hl
          clear hS hSw hl
          by_cases hlj : l = j
          · have HC : Hid (cnt S k (j + 1) = cnt S k j + 1) := by show cnt S k j + (if lst S (S j) k = some j then 1 else 0) = _; rw [if_pos (by rw [HL.out, hlj])]
            have q8 : ((l : Int) == (j : Int)) = true := by simp [hlj]
            have HJ : Hid (l = j) := hlj
            clear hlj
            go_wp2
            go_quiet (fail)
            go_wp2_with (go_at_call 10; refine (clast_any b off k cap j S _ hjl hn ?_).mono ?_; (exact HSw.out); rintro e w3 ⟨l', hl', rfl, nq2, rfl⟩; obtain rfl : l' = l := Option.some.inj (hl'.symm.trans HL.out); rw [drewN2])
            go_roundw
            case rel => exact ⟨j + 1, by omega, by go_num, by rw [HC.out]; go_num, hbx.trans ((Below.drewN' w2 _).mono hbx.size)⟩
            case measure => simp [intOf]; omega
          · have HC : Hid (cnt S k (j + 1) = cnt S k j) := by show cnt S k j + (if lst S (S j) k = some j then 1 else 0) = _; rw [if_neg (by rw [HL.out]; intro e; exact hlj (Option.some.inj e))]; rfl
            have q8 : ((l : Int) == (j : Int)) = false := by simp; omega
            clear hlj
            go_wp2
            go_quiet (fail)
            go_wp2_with (go_at_call 10; refine (clast_any b off k cap j S _ hjl hn ?_).mono ?_; (exact HSw.out); rintro e w3 ⟨l', hl', rfl, nq2, rfl⟩; obtain rfl : l' = l := Option.some.inj (hl'.symm.trans HL.out); rw [drewN2])
            go_roundw
            case rel => exact ⟨j + 1, by omega, by go_num, by rw [HC.out], hbx.trans ((Below.drewN' w2 _).mono hbx.size)⟩
            case measure => simp [intOf]; omega
        · have hje : j = k := by omega
          subst hje
          have q1 := fun ty => hR2.out.mp.len Yba.underlying156 ty
          go_wp2
          go_ret
          exact ⟨by simp, hR2.out.bel⟩

set_option maxRecDepth 100000 in
set_option maxHeartbeats 400000 in
theorem law_nil (v1 : Value) (w : World) :
    Calls Yba.prog 5 #[.slice none 0 0, v1] w fun e w' => e = .returned (.bool true) ∧ Below w.heap.size w w' := by
  have hq0 := neq_nil153
  have hq1 := eql_nil156
  go_enter Yba.func5, Yba.ntmps5
  go_wp2_with (go_at_call 9; refine (index_none _ none (fun _ => ByteArray.empty) _ ?_).mono ?_; (go_simp); rintro e w' ⟨rfl, f, hf⟩; have hbe : Below _ _ _ := hf.bel; have r1 := (hbe.cell (p := ⟨w.heap.size, 1, none⟩) (by simp)); have r20 := (hbe.cell (p := ⟨w.heap.size, 20, none⟩) (by simp)); simp at r1 r20)
  refine wp_loop_rounds 1 ?_
  rw [rounds_succ]
  have q1 := fun ty => hf.mp.len Yba.underlying156 ty
  simp only [World.size_alloc] at q1
  go_wp2
  go_ret
  exact ⟨by simp [cnt], ((Below.refl _ _).alloc (Nat.le_refl _) _).trans (hf.bel.mono (by simp))⟩

set_option maxRecDepth 100000 in
set_option maxHeartbeats 400000 in
theorem law_empty (x : Addr) (cap : Nat) (v1 : Value) (w : World) :
    Calls Yba.prog 5 #[.slice (some x) 0 cap, v1] w fun e w' => e = .returned (.bool true) ∧ Below w.heap.size w w' := by
  have hq0 := neq_nil153
  have hq1 := eql_nil156
  have hmk : ∀ w : World, (Instr.makeSlice 129 (.int .i64 0) (.int .i64 0)).run Yba.prog w = .ok (.slice (some ⟨w.heap.size, 0, none⟩) 0 0) (w.alloc (.cells (nodeCells 0) 155)) := fun w => make_nodes 0 (by omega) w
  go_enter Yba.func5, Yba.ntmps5
  go_wp2
  refine wp_loop_rounds 1 ?_
  rw [rounds_succ]
  go_wp2_with (go_at_call 9; refine (index_none _ (some ⟨w.heap.size, 0, none⟩) (fun _ => ByteArray.empty) _ ?_).mono ?_; (go_simp); rintro e w' ⟨rfl, f, hf⟩; have hbe : Below _ _ _ := hf.bel; have r1 := (hbe.cell (p := ⟨w.heap.size + 1, 1, none⟩) (by simp)); have r20 := (hbe.cell (p := ⟨w.heap.size + 1, 20, none⟩) (by simp)); simp at r1 r20)
  refine wp_loop_rounds 1 ?_
  rw [rounds_succ]
  have q1 := fun ty => hf.mp.len Yba.underlying156 ty
  simp only [World.size_alloc] at q1
  go_wp2
  go_ret
  exact ⟨by simp [cnt], (((Below.refl _ _).alloc (Nat.le_refl _) _).alloc (by simp) _).trans (hf.bel.mono (by simp; omega))⟩

set_option maxRecDepth 100000 in
theorem law_big (a0 : Option Addr) (n cap : Nat) (v1 : Value) (w : World) (hn : 4096 < (n : Int)) (hm : n ≤ maxLen) :
    Calls Yba.prog 5 #[.slice a0 n cap, v1] w fun e w' => e = .returned (.bool true) ∧ Below w.heap.size w w' := by
  unfold maxLen at hm
  go_enter Yba.func5, Yba.ntmps5
  go_wp2
  go_ret
  exact ⟨rfl, Below.refl _ _⟩
end Go.Proofs.Ybulkdxsc
