/- LawS6213CWhole: slices.Sort and slices.Equal by the shelf's contracts, laid at this program (made by the shelf's lay-shelf and lay-plain). -/
import Derived.Ground.SlgnProg
import Derived.Shelf.SlicesE.Equal
import Derived.Ground.SlgmProg
import Derived.Shelf.SortM.Plain
import Derived.Shelf.SortM.SortNone
import Derived.Test.YbulkdxqmGreatFmtProg
namespace Go.Proofs
open Go.Shelf
def Ybaz.laysSlE33_f8_ren : Go.Shelf.Ren := ⟨fun | 33 => 8 | n => n, fun | 22 => 53 | 23 => 2 | 4 => 4 | 3 => 3 | 0 => 0 | n => n, fun | n => n⟩
theorem Ybaz.laysSlE33_f8 : Go.Proofs.SlLaysE.n33 Ybaz.prog Ybaz.laysSlE33_f8_ren := {
  mixed := by kernel_rfl
  f33 := ⟨Ybaz.f8.name, by decide, Ybaz.func8.trans (congrArg some (by kernel_rfl))⟩
  t0 := Ybaz.underlying0
  a0 := Ybaz.isAgg0
  z0 := Ybaz.sizeOf0
  v0 := Ybaz.zeroValue0
  t3 := Ybaz.underlying3
  a3 := Ybaz.isAgg3
  z3 := Ybaz.sizeOf3
  v3 := Ybaz.zeroValue3
  t4 := Ybaz.underlying4
  a4 := Ybaz.isAgg4
  z4 := Ybaz.sizeOf4
  v4 := Ybaz.zeroValue4
  t22 := Ybaz.underlying53
  a22 := Ybaz.isAgg53
  z22 := Ybaz.sizeOf53
  v22 := Ybaz.zeroValue53
  a23 := Ybaz.isAgg2
  z23 := Ybaz.sizeOf2 }
open Go.RowKit Go.Lib in

theorem Ybaz.slices_Equal {α : Type} [Inhabited α] (enc : α → Value) (eq : α → α → Bool) (hne : NeqAt Ybaz.prog 2 enc eq) (b1 o1 n c b2 o2 m d : Nat) (xs ys : List α) (w : World) (hx : n ≤ xs.length) (hy : m ≤ ys.length) (hbig : n ≤ 9223372036854775807) (hbig2 : m ≤ 9223372036854775807) (hc1 : ∀ j, j < xs.length → w.cell? ⟨b1, o1 + j, none⟩ = some (enc xs[j]!)) (hc2 : ∀ j, j < ys.length → w.cell? ⟨b2, o2 + j, none⟩ = some (enc ys[j]!)) :
    Calls Ybaz.prog 8 #[.slice (some ⟨b1, o1, none⟩) n c, .slice (some ⟨b2, o2, none⟩) m d] w fun e w' => e = .returned (.bool (Lib.allEq eq (xs.take n) (ys.take m))) ∧ ∃ q, w' = w.drewN q := AnyE.slices_Equal Ybaz.laysSlE33_f8 enc eq hne b1 o1 n c b2 o2 m d xs ys w hx hy hbig hbig2 hc1 hc2
def Ybaz.laysSlM5_f7_ren : Go.Shelf.Ren := ⟨fun | 5 => 7 | 8 => 13 | 7 => 12 | 19 => 26 | 20 => 27 | 10 => 17 | 11 => 18 | 12 => 19 | 13 => 20 | 14 => 21 | 15 => 22 | 16 => 23 | 17 => 24 | 18 => 25 | 30 => 47 | 31 => 48 | 32 => 49 | 33 => 50 | 34 => 51 | 35 => 10 | 40 => 73 | n => n, fun | 23 => 53 | 25 => 2 | 3 => 3 | 32 => 109 | 22 => 53 | 0 => 0 | 44 => 124 | 46 => 126 | 4 => 4 | 36 => 116 | 35 => 115 | 41 => 121 | 5 => 5 | 9 => 9 | 53 => 157 | 57 => 161 | 63 => 184 | 64 => 185 | n => n, fun | n => n⟩
theorem Ybaz.laysSlM5_f7 : Go.Proofs.SlLaysM.n5 Ybaz.prog Ybaz.laysSlM5_f7_ren := {
  mixed := by kernel_rfl
  f5 := ⟨Ybaz.f7.name, by decide, Ybaz.func7.trans (congrArg some (by kernel_rfl))⟩
  f7 := ⟨Ybaz.f12.name, by decide, Ybaz.func12.trans (congrArg some (by kernel_rfl))⟩
  f8 := Ybaz.func13.trans (congrArg some (by kernel_rfl))
  f10 := ⟨Ybaz.f17.name, by decide, Ybaz.func17.trans (congrArg some (by kernel_rfl))⟩
  f11 := ⟨Ybaz.f18.name, by decide, Ybaz.func18.trans (congrArg some (by kernel_rfl))⟩
  f12 := ⟨Ybaz.f19.name, by decide, Ybaz.func19.trans (congrArg some (by kernel_rfl))⟩
  f13 := ⟨Ybaz.f20.name, by decide, Ybaz.func20.trans (congrArg some (by kernel_rfl))⟩
  f14 := ⟨Ybaz.f21.name, by decide, Ybaz.func21.trans (congrArg some (by kernel_rfl))⟩
  f15 := ⟨Ybaz.f22.name, by decide, Ybaz.func22.trans (congrArg some (by kernel_rfl))⟩
  f16 := ⟨Ybaz.f23.name, by decide, Ybaz.func23.trans (congrArg some (by kernel_rfl))⟩
  f17 := ⟨Ybaz.f24.name, by decide, Ybaz.func24.trans (congrArg some (by kernel_rfl))⟩
  f18 := ⟨Ybaz.f25.name, by decide, Ybaz.func25.trans (congrArg some (by kernel_rfl))⟩
  f19 := Ybaz.func26.trans (congrArg some (by kernel_rfl))
  f20 := Ybaz.func27.trans (congrArg some (by kernel_rfl))
  f30 := ⟨Ybaz.f47.name, by decide, Ybaz.func47.trans (congrArg some (by kernel_rfl))⟩
  f31 := Ybaz.func48.trans (congrArg some (by kernel_rfl))
  f32 := Ybaz.func49.trans (congrArg some (by kernel_rfl))
  f33 := ⟨Ybaz.f50.name, by decide, Ybaz.func50.trans (congrArg some (by kernel_rfl))⟩
  f34 := ⟨Ybaz.f51.name, by decide, Ybaz.func51.trans (congrArg some (by kernel_rfl))⟩
  f35 := ⟨Ybaz.f10.name, by decide, Ybaz.func10.trans (congrArg some (by kernel_rfl))⟩
  f40 := ⟨Ybaz.f73.name, by decide, Ybaz.func73.trans (congrArg some (by kernel_rfl))⟩
  t0 := Ybaz.underlying0
  a0 := Ybaz.isAgg0
  z0 := Ybaz.sizeOf0
  v0 := Ybaz.zeroValue0
  t3 := Ybaz.underlying3
  a3 := Ybaz.isAgg3
  z3 := Ybaz.sizeOf3
  v3 := Ybaz.zeroValue3
  t4 := Ybaz.underlying4
  a4 := Ybaz.isAgg4
  z4 := Ybaz.sizeOf4
  v4 := Ybaz.zeroValue4
  t5 := Ybaz.underlying5
  a5 := Ybaz.isAgg5
  z5 := Ybaz.sizeOf5
  v5 := Ybaz.zeroValue5
  t9 := Ybaz.underlying9
  a9 := Ybaz.isAgg9
  z9 := Ybaz.sizeOf9
  v9 := Ybaz.zeroValue9
  t22 := Ybaz.underlying53
  a22 := Ybaz.isAgg53
  z22 := Ybaz.sizeOf53
  v22 := Ybaz.zeroValue53
  t23 := Ybaz.underlying53
  a23 := Ybaz.isAgg53
  z23 := Ybaz.sizeOf53
  v23 := Ybaz.zeroValue53
  t25 := Ybaz.underlying2
  a25 := Ybaz.isAgg2
  z25 := Ybaz.sizeOf2
  v25 := Ybaz.zeroValue2
  t32 := Ybaz.underlying109
  a32 := Ybaz.isAgg109
  z32 := Ybaz.sizeOf109
  v32 := Ybaz.zeroValue109
  t35 := Ybaz.underlying115
  a35 := Ybaz.isAgg115
  z35 := Ybaz.sizeOf115
  v35 := Ybaz.zeroValue115
  t36 := Ybaz.underlying116
  a36 := Ybaz.isAgg116
  z36 := Ybaz.sizeOf116
  v36 := Ybaz.zeroValue116
  t41 := Ybaz.underlying121
  a41 := Ybaz.isAgg121
  z41 := Ybaz.sizeOf121
  v41 := Ybaz.zeroValue121
  t44 := Ybaz.underlying124
  a44 := Ybaz.isAgg124
  z44 := Ybaz.sizeOf124
  v44 := Ybaz.zeroValue124
  t46 := Ybaz.underlying126
  a46 := Ybaz.isAgg126
  z46 := Ybaz.sizeOf126
  v46 := Ybaz.zeroValue126
  t53 := Ybaz.underlying157
  a53 := Ybaz.isAgg157
  z53 := Ybaz.sizeOf157
  v53 := Ybaz.zeroValue157
  t57 := Ybaz.underlying161
  a57 := Ybaz.isAgg161
  z57 := Ybaz.sizeOf161
  v57 := Ybaz.zeroValue161
  t63 := Ybaz.underlying184
  a63 := Ybaz.isAgg184
  z63 := Ybaz.sizeOf184
  v63 := Ybaz.zeroValue184
  t64 := Ybaz.underlying185
  a64 := Ybaz.isAgg185
  z64 := Ybaz.sizeOf185
  v64 := Ybaz.zeroValue185 }
open Go.Sort Go.RowKit in
theorem Ybaz.slices_Sort_int (blk off cap : Nat) (zs : List Int) (w : World) (hH : Holds (Value.int .i64) w blk off zs.toArray) (hblk : blk < w.heap.size) (hsz : zs.length < 4611686018427387904) :
    Calls Ybaz.prog 7 #[.slice (some ⟨blk, off, none⟩) zs.length cap] w fun e w' =>
      e = .returned (.tuple #[]) ∧ ∃ n os, w' = grow (putRow (Value.int .i64) (Sort.ahead w n) blk off (zs.mergeSort fun x y => decide (x ≤ y)).toArray) os := AnyM.slices_Sort_int Ybaz.laysSlM5_f7 blk off cap zs w hH hblk hsz
open Go.RowKit Go.Sort in

theorem Ybaz.slices_Sort_int_none (p : Option Addr) (cap : Nat) (w : World) :
    Calls Ybaz.prog 7 #[.slice p 0 cap] w fun e w' => e = .returned (.tuple #[]) ∧ w' = w := AnyM.slices_Sort_int_none Ybaz.laysSlM5_f7 p cap w
end Go.Proofs
