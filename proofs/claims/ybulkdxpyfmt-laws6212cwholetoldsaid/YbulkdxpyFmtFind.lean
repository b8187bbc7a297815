/- (*File).Find by its two ways; fmt.Errorf at this call's format (after the guide's SentryFmt.lean, SentryWalks.lean, turned to this dump). fmt's text stays open: nothing here looks at it. -/
import Derived.Test.YbulkdxpyFmtChecked
import Derived.Test.YbulkdxpyFmtMaps
import Derived.WalkKit
import Derived.Stop.CallBack
import Derived.Stop.IfaceNil
import Derived.Maps.OwnSet
import Derived.Deep.RegionWith
import Derived.Deep.Draws
namespace Go.Proofs.YbulkdxpyFmt
open Go.RowKit Go.Extern.Stop Go.Stop Go.Extern Go.Maps Go.WideMaps Go.WideElems

theorem call9 (args : Array Value) (w : World) : (callFunc 9 args).run Ybaf.prog w = ((FmtStop.errorf #[9, 48] #[37] args).run Ybaf.prog w).andThen fun v w' => .ok (.value v) w' :=
  run_callFunc_extern Ybaf.func9 (by kernel_rfl) (by kernel_rfl) (by kernel_rfl) (by kernel_rfl) args w
theorem fguard (name : String) (w : World) : (FmtStop.guard name).run Ybaf.prog w = .ok () w := by kernel_rfl
theorem fmt0r (w : World) : (FmtDoors.printed ⟨#[37, 115, 58, 32, 116, 97, 115, 107, 32, 37, 115, 58, 32, 37, 119]⟩ 3).run Ybaf.prog w = .ok [(0, 115, false), (1, 115, false), (2, 119, false)] w := by kernel_rfl
def shape9 : List UInt8 := [12, 6, 0, 0, 0, 0, 0, 0, 0, 115, 116, 114, 105, 110, 103]
theorem op9_115w (name : String) (x : ByteArray) (w : World) : (FmtStop.operand name true 115 false (.iface 9 (.string x))).run Ybaf.prog w = .ok (shape9, FmtStop.pack x.data.toList) w := by kernel_rfl
theorem ptr50 (w : World) : (FmtStop.ptrTo "fmt.wrapError").run Ybaf.prog w = .ok 50 w := by kernel_rfl
theorem elem50 (w : World) : (elemOf 50).run Ybaf.prog w = .ok 93 w := by kernel_rfl
theorem isError62 (w : World) : (FmtDoors.textMethod 62 "Error").run Ybaf.prog w = .ok true w := by kernel_rfl
theorem str62 (w : World) : (typeStr 62).run Ybaf.prog w = .ok Ybaf.t62.str w := by kernel_rfl
theorem opPlain62 (name : String) (a : Addr) (s : ByteArray) (w : World) (hc : w.cell? a = some (.string s)) :
    (FmtStop.operand name true 119 false (.iface 62 (.pointer (some a)))).run Ybaf.prog w = .ok (14 :: FmtStop.pack Ybaf.t62.str.toUTF8.data.toList, s.data.toList) w := by
  have h1 := str62 w
  have d2 : Ybaf.t62.desc = .pointer 64 := rfl
  have d3 : Ybaf.t64.desc = .named "errors.errorString" 63 := rfl
  simp [FmtStop.operand, h1, d2, d3, run_load, hc]

set_option maxHeartbeats 400000 in
theorem errorf_any (vb : Nat) (path id s : ByteArray) (a : Addr) (w : World) (h0 : w.cell? ⟨vb, 0, none⟩ = some (.iface 9 (.string path))) (h1 : w.cell? ⟨vb, 1, none⟩ = some (.iface 9 (.string id)))
    (h2 : w.cell? ⟨vb, 2, none⟩ = some (.iface 62 (.pointer (some a)))) (hs : w.cell? a = some (.string s)) :
    Calls Ybaf.prog 6 #[.string ⟨#[37, 115, 58, 32, 116, 97, 115, 107, 32, 37, 115, 58, 32, 37, 119]⟩, .slice (some ⟨vb, 0, none⟩) 3 3] w fun e w' =>
      e = .returned (.iface 50 (.pointer (some ⟨w.heap.size, 0, none⟩))) ∧ ∃ x : Value, w' = (w.alloc (.cells #[x, .iface 62 (.pointer (some a))] 93)).drew := by
  have k0 := call9
  have k1 := fguard
  have k2 := fmt0r
  have k3 := op9_115w
  have k4 := ptr50
  have k5 := elem50
  have k6 := isError62
  have hop := opPlain62 "fmt.errorf" a s w hs
  go_enter Ybaf.func6, Ybaf.ntmps6
  go_wp2
  go_ret
  exact ⟨rfl, _, rfl⟩

theorem key9 : Keyed Ybaf.prog 9 := string_keyed Ybaf.underlying9
theorem zero30 (w : World) : (zeroValue 30).run Ybaf.prog w = .ok (.pointer none) w := by kernel_rfl

theorem find_hit (fb mb n c p : Nat) (f : Lit → Option (DataW Unit)) (id : ByteArray) (w : World) (h2 : w.cell? ⟨fb, 2, none⟩ = some (.map (some mb))) (hm : MapAt w Ybaf.prog 9 ptrElem mb n c f) (hid : id.size ≤ maxLen)
    (hf : f (.string id.data.toList) = some (.lit (.int .i64 p))) :
    Calls Ybaf.prog 4 #[.pointer (some ⟨fb, 0, none⟩), .string id] w fun e w' => e = .returned (.tuple #[.pointer (some ⟨p, 0, none⟩), .nilIface]) ∧ w' = w := by
  have hrun := hm.look2_hit key9 Ybaf.underlying24 zero30 ptrElem_nil (keyOf_string_mk Ybaf.underlying9 hid) hf (ptrElem_inv p)
  clear hm hf
  go_enter Ybaf.func4, Ybaf.ntmps4
  go_wp2
  go_ret2
  exact ⟨rfl, rfl⟩

set_option maxHeartbeats 400000 in
theorem find_miss (fb mb n c : Nat) (f : Lit → Option (DataW Unit)) (path id s : ByteArray) (a : Addr) (w : World) (h0 : w.cell? ⟨fb, 0, none⟩ = some (.string path)) (h2 : w.cell? ⟨fb, 2, none⟩ = some (.map (some mb)))
    (hm : MapAt w Ybaf.prog 9 ptrElem mb n c f) (hid : id.size ≤ maxLen) (hf : f (.string id.data.toList) = none)
    (hg : w.cell? ⟨0, 0, none⟩ = some (.iface 62 (.pointer (some a)))) (hs : w.cell? a = some (.string s)) :
    Calls Ybaf.prog 4 #[.pointer (some ⟨fb, 0, none⟩), .string id] w fun e w' => e = .returned (.tuple #[.pointer none, .iface 50 (.pointer (some ⟨w.heap.size + 1, 0, none⟩))]) ∧ ∃ o x nd, w' = ((w.alloc o).alloc (.cells #[x, .iface 62 (.pointer (some a))] 93)).drewN nd := by
  have hrun := hm.look2_miss key9 Ybaf.underlying24 zero30 ptrElem_nil (keyOf_string_mk Ybaf.underlying9 hid) hf (ptrElem_inv_nil)
  have hs' : ∀ o, (w.alloc o).cell? a = some (.string s) := fun o => by rw [World.cell?_alloc_lt _ _ _ (World.block_lt_of_cell? _ _ hs)]; exact hs
  clear hm hf
  go_enter Ybaf.func4, Ybaf.ntmps4
  go_wp2
  go_region_with (first
    | (go_at_call 6; refine (errorf_any _ path id s a _ ?_ ?_ ?_ ?_).mono ?_; (go_simp); (go_simp); (go_simp); (first | exact hs' _ | (simp; exact hs' _)); rintro e w' ⟨rfl, x, rfl⟩))
  all_goals (try go_wp2)
  all_goals (go_ret2; exact ⟨rfl, _, _, 2, rfl⟩)
end Go.Proofs.YbulkdxpyFmt
