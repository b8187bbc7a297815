/- LawS6218BWhole: the law's own function. -/
import Derived.Test.YbulkdxteBFin
namespace Go.Proofs.Ybulkdxte
set_option linter.unusedVariables false
open Go.RowKit

def zq : Nat → Int := fun _ => 0
def iq : Nat → Int := fun j => (j : Int)

set_option maxRecDepth 10000 in
set_option maxHeartbeats 4000000 in
theorem law_B (l0 l1 l2 l3 c0 c1 c2 c3 kk m nv ne : Nat) (a0 a1 a2 a3 : Option Addr) (PV PE : Nat → Int) (Pv Pe : Nat → Bool) (vn en vg eg : Bool) (w : World) (hl0 : l0 ≤ 1048576) (hl1 : l1 ≤ 1048576) (hl2 : l2 ≤ 1048576) (hl3 : l3 ≤ 1048576) (hsum : ¬ (1048576 : Int) < (l0 : Int) + (l1 : Int) + (l2 : Int) + (l3 : Int))
    (hnv0 : nv = if l2 = 0 then 1 else l2) (hne0 : ne = if l3 = 0 then 1 else l3) (hkm0 : kk = m + 1) (hm0 : kk = if l1 = 0 then 1 else l1) (hV : U32s w a0 l0 PV) (hE : U32s w a1 l1 PE) (hA : Bools w a2 l2 Pv) (hB : Bools w a3 l3 Pe) :
    Calls Yba.prog 4 #[.slice a0 l0 c0, .slice a1 l1 c1, .slice a2 l2 c2, .slice a3 l3 c3, .bool vn, .bool en, .bool vg, .bool eg] w fun e w' => e = .returned (.bool true) ∧ Below w.heap.size w w' := by
  have HN1 : Hid (nv = if l2 = 0 then 1 else l2) := hnv0
  have HN2 : Hid (ne = if l3 = 0 then 1 else l3) := hne0
  have HN3 : Hid (kk = if l1 = 0 then 1 else l1) := hm0
  have n1 : 0 < nv ∧ nv ≤ 1048576 := by rw [hnv0]; split <;> omega
  have n2 : 0 < ne ∧ ne ≤ 1048576 := by rw [hne0]; split <;> omega
  have n3 : kk ≤ 1048576 := by rw [hm0]; split <;> omega
  have HKM : Hid (kk = m + 1) := hkm0
  have HV : Hid (U32s w a0 l0 PV) := hV
  have HE : Hid (U32s w a1 l1 PE) := hE
  have HA : Hid (Bools w a2 l2 Pv) := hA
  have HB : Hid (Bools w a3 l3 Pe) := hB
  clear hnv0 hne0 hm0 hkm0 hV hE hA hB
  have mk1 := run_make_row' (P := Yba.prog) 26 21 (.int .i32 0) 4 Yba.underlying26 binfo21 rfl .i64 .i64 kk (by omega) (by omega)
  go_enter Yba.func4, Yba.ntmps4
  go_upto_if 50 with fail
  go_cut [17] from 35 to 50 (fun v wx => v = .int .i64 nv ∧ w = wx)
  case first => 
    by_cases h : l2 = 0
    · have e : nv = 1 := by rw [HN1.out, if_pos h]
      subst h
      go_wp2
      go_meet
      case rel => exact ⟨by rw [e]; rfl, rfl⟩
    · have e : nv = l2 := by rw [HN1.out, if_neg h]
      have hb : ((l2 : Int) == 0) = false := by simp; omega
      go_wp2
      go_meet
      case rel => exact ⟨by rw [e], rfl⟩
  case rest => 
    obtain ⟨rfl, rfl⟩ := hcut
    go_upto_if 54 with fail
    go_cut [18] from 51 to 54 (fun v wx => v = .int .i64 ne ∧ w = wx)
    case first => 
      by_cases h : l3 = 0
      · have e : ne = 1 := by rw [HN2.out, if_pos h]
        subst h
        go_wp2
        go_meet
        case rel => exact ⟨by rw [e]; rfl, rfl⟩
      · have e : ne = l3 := by rw [HN2.out, if_neg h]
        have hb : ((l3 : Int) == 0) = false := by simp; omega
        go_wp2
        go_meet
        case rel => exact ⟨by rw [e], rfl⟩
    case rest => 
      obtain ⟨rfl, rfl⟩ := hcut
      go_upto_if 58 with fail
      go_cut [19] from 55 to 58 (fun v wx => v = .int .i64 (kk : Int) ∧ w = wx)
      case first => 
        by_cases h : l1 = 0
        · have e : kk = 1 := by rw [HN3.out, if_pos h]
          subst h
          go_wp2
          go_meet
          case rel => exact ⟨by rw [e]; rfl, rfl⟩
        · have e : kk = l1 := by rw [HN3.out, if_neg h]
          have hb : ((l1 : Int) == 0) = false := by simp; omega
          go_wp2
          go_meet
          case rel => exact ⟨by rw [e], rfl⟩
      case rest => 
        obtain ⟨rfl, rfl⟩ := hcut
        obtain ⟨H, hH⟩ : ∃ H, H = w.heap.size := ⟨_, rfl⟩
        have hS0 := StE.start w H PE zq l1 ne kk hH
        go_wp2
        clear mk1
        rw [← hH]
        have HH : Hid (H = w.heap.size) := hH
        clear hH
        go_loopw [21] (fun v wr => ∃ i : Nat, i ≤ kk ∧ v = .int .i64 i ∧ StE w wr H PE zq l1 ne kk i) (fun v _ => kk - (intOf v).toNat)
        case atStart => exact ⟨0, Nat.zero_le _, rfl, hS0⟩
        case round =>
          rename World => w1
          obtain ⟨i, hi, rfl, hS⟩ := hrel
          clear hS0
          by_cases hlt : i < kk
          · have r1 := hS.row.cell hlt
            have r2 := hS.row.frozen i
            have u1 : IntKind.u32.wrap (ne : Int) = (ne : Int) := by rw [IntKind.wrap_u32]; omega
            have k1 : (i : Int) < (kk : Int) := by omega
            have HS : Hid (StE w w1 H PE zq l1 ne kk i) := hS
            by_cases hil : i < l1
            · obtain ⟨ab, ao, rfl, hab, hac, p0, p1⟩ := HE.out i hil
              have ea := (hS.bel.cell (p := ⟨ab, ao + i, none⟩) (by rw [HH.out]; exact hab)).trans hac
              have v1 := laid_in PE zq l1 ne i n2.1 n2.2 hil
              clear hS hac
              go_wp2
              go_roundw
              case rel => exact ⟨i + 1, by omega, by go_num, HS.out.step⟩
              case measure => simp [intOf]; omega
            · have v1 := laid_out PE zq l1 ne i n2.1 n2.2 hil
              have v2 : (laidAt PE zq l1 ne i : Int) = 0 := by rw [← v1]; simp [IntKind.wrap_i32, zq]
              have HV2 : Hid ((laidAt PE zq l1 ne i : Int) = 0) := v2
              clear hS v1 v2
              go_wp2
              go_roundw
              case rel => exact ⟨i + 1, by omega, by go_num, by rw [← HV2.out]; exact HS.out.step⟩
              case measure => simp [intOf]; omega
          · have hie : kk = i := by omega
            subst hie
            clear hlt hi
            have mk2 := run_make_row' (P := Yba.prog) 26 21 (.int .i32 0) 4 Yba.underlying26 binfo21 rfl .i64 .i64 (kk + 1) (by omega) (by omega)
            rw [Int.natCast_add, Int.natCast_one] at mk2
            have HE1 : Hid (Row w1 H kk (fun j => .int .i32 (laidAt PE zq l1 ne j : Int))) := hS.done
            have HB1 : Hid (Below H w w1) := hS.bel
            have hZ1 := hS.sz
            have HS1 : Hid (StE w1 _ (H + 1) PV iq l0 nv (kk + 1) 0) := StE.start w1 (H + 1) PV iq l0 nv (kk + 1) hS.sz.symm
            clear hS
            go_wp2
            clear mk2
            go_loopw [24] (fun v wr => ∃ i : Nat, i ≤ kk + 1 ∧ v = .int .i64 i ∧ StE w1 wr (H + 1) PV iq l0 nv (kk + 1) i) (fun v _ => kk + 1 - (intOf v).toNat)
            case atStart => exact ⟨0, Nat.zero_le _, rfl, HS1.out⟩
            case round =>
              rename World => w2
              obtain ⟨i, hi, rfl, hS⟩ := hrel
              clear HS1
              by_cases hlt : i ≤ kk
              · have r1 := hS.row.cell (i := i) (by omega)
                have r2 := hS.row.frozen i
                have u1 : IntKind.u32.wrap (nv : Int) = (nv : Int) := by rw [IntKind.wrap_u32]; omega
                have u2 : IntKind.u32.wrap (i : Int) = (i : Int) := by rw [IntKind.wrap_u32]; omega
                have k1 : (i : Int) ≤ (kk : Int) := by omega
                have k2 : (i : Int) < ((kk : Int) + 1) := by omega
                have HS : Hid (StE w1 w2 (H + 1) PV iq l0 nv (kk + 1) i) := hS
                by_cases hil : i < l0
                · obtain ⟨ab, ao, rfl, hab, hac, p0, p1⟩ := HV.out i hil
                  have ea := (hS.bel.cell (p := ⟨ab, ao + i, none⟩) (by have := HH.out; simp; omega)).trans ((HB1.out.cell (p := ⟨ab, ao + i, none⟩) (by rw [HH.out]; exact hab)).trans hac)
                  have v1 := laid_in PV iq l0 nv i n1.1 n1.2 hil
                  clear hS hac
                  go_wp2
                  go_roundw
                  case rel => exact ⟨i + 1, by omega, by go_num, HS.out.step⟩
                  case measure => simp [intOf]; omega
                · have v1 := laid_out PV iq l0 nv i n1.1 n1.2 hil
                  rw [show iq i = (i : Int) from rfl] at v1
                  clear hS
                  go_wp2
                  go_roundw
                  case rel => exact ⟨i + 1, by omega, by go_num, HS.out.step⟩
                  case measure => simp [intOf]; omega
              · have hie : i = kk + 1 := by omega
                subst hie
                clear hlt hi
                have HBS : Hid (Base w w2 H kk (fun j => (laidAt PE zq l1 ne j : Int)) (fun j => (laidAt PV iq l0 nv j : Int))) :=
                  ⟨HE1.out.later hS.bel.size (hS.bel.block H (by omega)), hS.done, HB1.out.trans (hS.bel.mono (by omega))⟩
                have hZ2 : w2.heap.size = H + 2 := hS.sz
                clear hS HE1 HB1 hZ1
                obtain ⟨EF, hEF⟩ : ∃ EF : Nat → Int, EF = fun j => (laidAt PE zq l1 ne j : Int) := ⟨_, rfl⟩
                obtain ⟨PF, hPF⟩ : ∃ PF : Nat → Int, PF = fun j => (laidAt PV iq l0 nv j : Int) := ⟨_, rfl⟩
                rw [← hEF, ← hPF] at HBS
                obtain ⟨vi, hvi, HPF⟩ : ∃ vi, vi < nv ∧ Hid (PF kk = (vi : Int)) := ⟨_, laid_lt PV iq l0 nv kk n1.1, congrFun hPF kk⟩
                obtain ⟨ei, hei, HEF⟩ : ∃ ei, ei < ne ∧ Hid (EF m = (ei : Int)) := ⟨_, laid_lt PE zq l1 ne m n2.1, congrFun hEF m⟩
                clear hEF hPF
                go_upto_if 109 with fail
                go_cut [26] from 108 to 109 (fun v wx => ∃ vb, v = sval vb nv nv ∧ Base w wx H kk EF PF ∧ Mk wx (H + 2) wx.heap.size vb nv (mkf l2 Pv) ∧ H + 2 ≤ wx.heap.size)
                case first =>
                  cases vn with
                  | true =>
                    go_wp2
                    go_meet
                    case rel => exact ⟨none, rfl, HBS.out, Mk.none _ _ _ _ _, Nat.le_of_eq hZ2.symm⟩
                  | false =>
                    have mk3 := run_make_row' (P := Yba.prog) 22 4 (.bool false) 1 Yba.underlying22 binfo4 rfl .i64 .i64 nv (by omega) (by omega)
                    obtain ⟨W, cpy, hrow, hbel, hsz⟩ := run_copy_marks w2 nv l2 c2 a2 Pv (by rw [HN1.out]; split <;> omega) (HA.out.next (HH.out ▸ HBS.out.bel))
                    have hb3 : Hid (Base w W H kk EF PF) := HBS.out.next hbel (by omega)
                    have hrow' : Hid (Row W (H + 2) nv (fun j => .bool (mkf l2 Pv j))) := by rw [hZ2] at hrow; exact hrow
                    rw [hZ2] at cpy hsz
                    clear hrow hbel
                    go_wp2
                    go_meet
                    case rel => exact ⟨some (H + 2), rfl, hb3.out, Mk.of (Nat.le_refl _) hrow'.out.lt hrow'.out, by omega⟩
                case rest =>
                  rename World => w3
                  obtain ⟨vb, rfl, hb3, hm3, hz3⟩ := hcut
                  have HB3 : Hid (Base w w3 H kk EF PF) := hb3
                  have HM3 : Hid (Mk w3 (H + 2) w3.heap.size vb nv (mkf l2 Pv)) := hm3
                  have HZ3 : Hid (H + 2 ≤ w3.heap.size) := hz3
                  clear hb3 hm3 hz3 hZ2 HBS HA
                  go_upto_if 116 with fail
                  go_cut [27] from 115 to 116 (fun v wx => ∃ ub, v = sval ub ne ne ∧ Below w3.heap.size w3 wx ∧ Mk wx w3.heap.size wx.heap.size ub ne (mkf l3 Pe))
                  case first =>
                    cases en with
                    | true =>
                      go_wp2
                      go_meet
                      case rel => exact ⟨none, rfl, Below.refl _ _, Mk.none _ _ _ _ _⟩
                    | false =>
                      have mk3 := run_make_row' (P := Yba.prog) 22 4 (.bool false) 1 Yba.underlying22 binfo4 rfl .i64 .i64 ne (by omega) (by omega)
                      obtain ⟨W, cpy, hrow, hbel, hsz⟩ := run_copy_marks w3 ne l3 c3 a3 Pe (by rw [HN2.out]; split <;> omega) (HB.out.next (HH.out ▸ HB3.out.bel))
                      have hbel' : Hid (Below w3.heap.size w3 W) := hbel
                      have hrow' : Hid (Row W w3.heap.size ne (fun j => .bool (mkf l3 Pe j))) := hrow
                      clear hrow hbel
                      go_wp2
                      go_meet
                      case rel => exact ⟨some w3.heap.size, rfl, hbel'.out, Mk.of (Nat.le_refl _) hrow'.out.lt hrow'.out⟩
                  case rest =>
                    rename World => w4
                    obtain ⟨ub, rfl, hb4, hm4⟩ := hcut
                    obtain ⟨fv, hfv⟩ : ∃ fv, fv = mkf l2 Pv := ⟨_, rfl⟩
                    obtain ⟨fe, hfe⟩ : ∃ fe, fe = mkf l3 Pe := ⟨_, rfl⟩
                    obtain ⟨B1, hB1⟩ : ∃ B1, B1 = w3.heap.size := ⟨_, rfl⟩
                    have HBS4 : Hid (Base w w4 H kk EF PF) := HB3.out.next hb4 HZ3.out
                    have HV4 : Hid (Mk w4 (H + 2) B1 vb nv fv) := by rw [hB1, hfv]; exact HM3.out.next hb4 (Nat.le_refl _)
                    have HU4 : Hid (Mk w4 B1 w4.heap.size ub ne fe) := by rw [hB1, hfe]; exact hm4
                    have HZ1 : Hid (H + 2 ≤ B1) := by rw [hB1]; exact HZ3.out
                    have HZ4 : Hid (B1 ≤ w4.heap.size) := by rw [hB1]; exact hb4.size
                    clear hb4 hm4 HM3 HB3 HZ3 hfv hfe hB1 HB
                    clear HN1 HN2 HN3 HV HE
                    go_upto_region 36 with (go_at_call 7; refine (clone7_any vb nv nv fv w4 n1.1 (by omega) (H + 2) B1 HV4.out).mono ?_; rintro e w5 ⟨xv, xc, rfl, hi5, hm5, hb5⟩; have Hi5 : Hid (vb.isSome = xv.isSome) := hi5; have Hm5 : Hid (Mk w5 w4.heap.size w5.heap.size xv nv fv) := hm5; have Hb5 : Hid (Below w4.heap.size w4 w5) := hb5; clear hi5 hm5 hb5)
                    have q1 := fun (w : World) (a : Option Addr) (n c n' c' : Nat) => run_neq_slice_nil_any (P := Yba.prog) w _ _ a n c n' c' Yba.underlying22
                    obtain ⟨tv, htv⟩ : ∃ tv, tv = (xv.isSome && !vg) := ⟨_, rfl⟩
                    have HTV : Hid (tv = (xv.isSome && !vg)) := htv
                    clear htv
                    go_cut [129] from 122 to 128 (fun v wx => v = .bool tv ∧ w5 = wx)
                    case first =>
                      cases xv with
                      | none =>
                        rw [show sval none nv xc = .slice none 0 0 from rfl]
                        go_wp2
                        go_meet
                        case rel => exact ⟨by rw [HTV.out]; rfl, rfl⟩
                      | some g =>
                        rw [show sval (some g) nv xc = .slice (some ⟨g, 0, none⟩) nv xc from rfl]
                        cases vg <;> (go_wp2; go_meet; case rel => exact ⟨by rw [HTV.out]; rfl, rfl⟩)
                    case rest =>
                      obtain ⟨rfl, rfl⟩ := hcut
                      obtain ⟨B2, hB2⟩ : ∃ B2, B2 = w4.heap.size := ⟨_, rfl⟩
                      have HBS5 : Hid (Base w w5 H kk EF PF) := HBS4.out.next Hb5.out (by have := HZ1.out; have := HZ4.out; omega)
                      have HV5 : Hid (Mk w5 (H + 2) B1 vb nv fv) := HV4.out.next Hb5.out HZ4.out
                      have HU5 : Hid (Mk w5 B1 B2 ub ne fe) := by rw [hB2]; exact HU4.out.next Hb5.out (Nat.le_refl _)
                      have HX5 : Hid (Mk w5 B2 w5.heap.size xv nv fv) := by rw [hB2]; exact Hm5.out
                      have HZ2 : Hid (B1 ≤ B2) := by rw [hB2]; exact HZ4.out
                      have HZ5 : Hid (B2 ≤ w5.heap.size) := by rw [hB2]; exact Hb5.out.size
                      clear hB2 HZ4 HBS4 HV4 HU4 Hm5 Hb5
                      go_upto_if 129 with fail
                      go_cut [129] from 129 to 129 (fun v wx => Below B2 w5 wx ∧ Mk wx B2 wx.heap.size xv nv (clr fv vg vi))
                      case first =>
                        cases xv with
                        | none =>
                          obtain rfl : tv = false := HTV.out
                          go_wp2
                          go_meet
                          case rel => exact ⟨Below.refl _ _, Mk.none _ _ _ _ _⟩
                        | some g =>
                          cases vg with
                          | true =>
                            obtain rfl : tv = false := HTV.out
                            go_wp2
                            go_meet
                            case rel => exact ⟨Below.refl _ _, by rw [clr_true]; exact HX5.out⟩
                          | false =>
                            obtain rfl : tv = true := HTV.out
                            obtain ⟨hg1, hg2, hg3⟩ := HX5.out g rfl
                            have x1 := HBS5.out.p.cell kk (by omega)
                            rw [HPF.out] at x1
                            have x2 := hg3.cell vi hvi
                            have x3 := hg3.free vi
                            have k1 : (vi : Int) < (nv : Int) := by omega
                            have k2 : (kk : Int) < (kk : Int) + 1 := by omega
                            rw [show sval (some g) nv xc = .slice (some ⟨g, 0, none⟩) nv xc from rfl]
                            have HR : Hid (Row w5 g nv (fun j => .bool (fv j))) := hg3
                            clear hg3
                            go_wp2
                            go_meet
                            case rel => exact ⟨(Below.refl _ _).setCell hg1 _, Mk.of hg1 (by simpa using hg2) (HR.out.clear vi hvi)⟩
                      case rest =>
                        rename World => w6
                        obtain ⟨hb6, hm6⟩ := hcut
                        obtain ⟨B3, hB3⟩ : ∃ B3, B3 = w6.heap.size := ⟨_, rfl⟩
                        have HZ3 : Hid (B2 ≤ B3) := by rw [hB3]; exact Nat.le_trans HZ5.out hb6.size
                        have HBS6 : Hid (Base w w6 H kk EF PF) := HBS5.out.next hb6 (by have := HZ1.out; have := HZ2.out; omega)
                        have HV6 : Hid (Mk w6 (H + 2) B1 vb nv fv) := HV5.out.next hb6 HZ2.out
                        have HU6 : Hid (Mk w6 B1 B2 ub ne fe) := HU5.out.next hb6 (Nat.le_refl _)
                        have HX6 : Hid (Mk w6 B2 B3 xv nv (clr fv vg vi)) := by rw [hB3]; exact hm6
                        have HW6 : Hid (B3 = w6.heap.size) := hB3
                        clear hb6 hm6 hB3 HBS5 HV5 HU5 HX5 HZ5 HTV
                        go_upto_region 39 with (go_at_call 7; refine (clone7_any ub ne ne fe w6 n2.1 (by omega) B1 B2 HU6.out).mono ?_; rintro e w7 ⟨yv, yc, rfl, hi5, hm5, hb5⟩; have Hi7 : Hid (ub.isSome = yv.isSome) := hi5; have Hm7 : Hid (Mk w7 w6.heap.size w7.heap.size yv ne fe) := hm5; have Hb7 : Hid (Below w6.heap.size w6 w7) := hb5; clear hi5 hm5 hb5)
                        obtain ⟨te, hte⟩ : ∃ te, te = (yv.isSome && !eg) := ⟨_, rfl⟩
                        have HTE : Hid (te = (yv.isSome && !eg)) := hte
                        clear hte
                        go_cut [143] from 136 to 142 (fun v wx => v = .bool te ∧ w7 = wx)
                        case first =>
                          cases yv with
                          | none =>
                            rw [show sval none ne yc = .slice none 0 0 from rfl]
                            go_wp2
                            go_meet
                            case rel => exact ⟨by rw [HTE.out]; rfl, rfl⟩
                          | some g =>
                            rw [show sval (some g) ne yc = .slice (some ⟨g, 0, none⟩) ne yc from rfl]
                            cases eg <;> (go_wp2; go_meet; case rel => exact ⟨by rw [HTE.out]; rfl, rfl⟩)
                        case rest =>
                          obtain ⟨rfl, rfl⟩ := hcut
                          clear q1
                          have HBS7 : Hid (Base w w7 H kk EF PF) := HBS6.out.next Hb7.out (by have := HZ1.out; have := HZ2.out; have := HZ3.out; have := HW6.out; omega)
                          have HV7 : Hid (Mk w7 (H + 2) B1 vb nv fv) := HV6.out.next Hb7.out (by have := HZ2.out; have := HZ3.out; have := HW6.out; omega)
                          have HU7 : Hid (Mk w7 B1 B2 ub ne fe) := HU6.out.next Hb7.out (by have := HZ3.out; have := HW6.out; omega)
                          have HX7 : Hid (Mk w7 B2 B3 xv nv (clr fv vg vi)) := HX6.out.next Hb7.out (by have := HW6.out; omega)
                          have HY7 : Hid (Mk w7 B3 w7.heap.size yv ne fe) := by rw [HW6.out]; exact Hm7.out
                          have HZ7 : Hid (B3 ≤ w7.heap.size) := by rw [HW6.out]; exact Hb7.out.size
                          clear HBS6 HV6 HU6 HX6 Hm7 Hb7 HW6
                          go_upto_if 143 with fail
                          go_cut [143] from 143 to 143 (fun v wx => Below B3 w7 wx ∧ Mk wx B3 wx.heap.size yv ne (clr fe eg ei))
                          case first =>
                            cases yv with
                            | none =>
                              obtain rfl : te = false := HTE.out
                              go_wp2
                              go_meet
                              case rel => exact ⟨Below.refl _ _, Mk.none _ _ _ _ _⟩
                            | some g =>
                              cases eg with
                              | true =>
                                obtain rfl : te = false := HTE.out
                                go_wp2
                                go_meet
                                case rel => exact ⟨Below.refl _ _, by rw [clr_true]; exact HY7.out⟩
                              | false =>
                                obtain rfl : te = true := HTE.out
                                obtain ⟨hg1, hg2, hg3⟩ := HY7.out g rfl
                                have x1 := HBS7.out.e.cell m (by have := HKM.out; omega)
                                rw [HEF.out] at x1
                                have x2 := hg3.cell ei hei
                                have x3 := hg3.free ei
                                have k1 : (ei : Int) < (ne : Int) := by omega
                                have k2 : (kk : Int) - 1 = (m : Int) := by have := HKM.out; omega
                                have k3 : (m : Int) < (kk : Int) := by omega
                                have k4 : IntKind.i64.wrap (m : Int) = (m : Int) := by rw [IntKind.wrap_i64]; omega
                                rw [show sval (some g) ne yc = .slice (some ⟨g, 0, none⟩) ne yc from rfl]
                                have HR : Hid (Row w7 g ne (fun j => .bool (fe j))) := hg3
                                clear hg3
                                go_wp2
                                go_meet
                                case rel => exact ⟨(Below.refl _ _).setCell hg1 _, Mk.of hg1 (by simpa using hg2) (HR.out.clear ei hei)⟩
                          case rest =>
                            rename World => w8
                            obtain ⟨hb8, hm8⟩ := hcut
                            obtain ⟨B4, hB4⟩ : ∃ B4, B4 = w8.heap.size := ⟨_, rfl⟩
                            have HZ4 : Hid (B3 ≤ B4) := by rw [hB4]; exact Nat.le_trans HZ7.out hb8.size
                            have HBS8 : Hid (Base w w8 H kk EF PF) := HBS7.out.next hb8 (by have := HZ1.out; have := HZ2.out; have := HZ3.out; omega)
                            have HV8 : Hid (Mk w8 (H + 2) B1 vb nv fv) := HV7.out.next hb8 (by have := HZ2.out; have := HZ3.out; omega)
                            have HU8 : Hid (Mk w8 B1 B2 ub ne fe) := HU7.out.next hb8 HZ3.out
                            have HX8 : Hid (Mk w8 B2 B3 xv nv (clr fv vg vi)) := HX7.out.next hb8 (Nat.le_refl _)
                            have HY8 : Hid (Mk w8 B3 B4 yv ne (clr fe eg ei)) := by rw [hB4]; exact hm8
                            have HW8 : Hid (B4 = w8.heap.size) := hB4
                            clear hb8 hm8 hB4 HBS7 HV7 HU7 HX7 HY7 HZ7 HTE
                            go_upto_region 42 with (go_at_call 8; refine (clone8 (H + 1) (kk + 1) (kk + 1) PF w8 (by omega) (by omega) HBS8.out.p).mono ?_; rintro e w9 ⟨pc, pcap, rfl, hg9, hr9, hb9⟩; have Hg9 : Hid (w8.heap.size ≤ pc) := hg9; have Hr9 : Hid (Row w9 pc (kk + 1) (fun j => .int .i32 (PF j))) := hr9; have Hb9 : Hid (Below w8.heap.size w8 w9) := hb9; clear hg9 hr9 hb9)
                            have HBS9 : Hid (Base w w9 H kk EF PF) := HBS8.out.next Hb9.out (by have := HZ1.out; have := HZ2.out; have := HZ3.out; have := HZ4.out; have := HW8.out; omega)
                            obtain ⟨B5, HW9⟩ : ∃ B5, Hid (B5 = w9.heap.size) := ⟨_, rfl⟩
                            have HZ5 : Hid (B4 ≤ pc ∧ pc < B5) := ⟨by rw [HW8.out]; exact Hg9.out, by rw [HW9.out]; exact Hr9.out.lt⟩
                            have HV9 : Hid (Mk w9 (H + 2) B1 vb nv fv) := HV8.out.next Hb9.out (by have := HZ2.out; have := HZ3.out; have := HZ4.out; have := HW8.out; omega)
                            have HU9 : Hid (Mk w9 B1 B2 ub ne fe) := HU8.out.next Hb9.out (by have := HZ3.out; have := HZ4.out; have := HW8.out; omega)
                            have HX9 : Hid (Mk w9 B2 B3 xv nv (clr fv vg vi)) := HX8.out.next Hb9.out (by have := HZ4.out; have := HW8.out; omega)
                            have HY9 : Hid (Mk w9 B3 B4 yv ne (clr fe eg ei)) := HY8.out.next Hb9.out (by have := HW8.out; omega)
                            clear HBS8 HV8 HU8 HX8 HY8 HW8 Hg9 Hb9
                            go_upto_region 43 with (go_at_call 8; refine (clone8 H kk kk EF w9 (by have := HKM.out; omega) (by omega) HBS9.out.e).mono ?_; rintro e w10 ⟨ec, ecap, rfl, hg10, hr10, hb10⟩; have Hg10 : Hid (w9.heap.size ≤ ec) := hg10; have Hr10 : Hid (Row w10 ec kk (fun j => .int .i32 (EF j))) := hr10; have Hb10 : Hid (Below w9.heap.size w9 w10) := hb10; clear hg10 hr10 hb10)
                            have HC : Hid (H + 2 ≤ B1 ∧ B1 ≤ B2 ∧ B2 ≤ B3 ∧ B3 ≤ B4 ∧ B4 ≤ pc ∧ pc < B5) := ⟨HZ1.out, HZ2.out, HZ3.out, HZ4.out, HZ5.out⟩
                            have HBS10 : Hid (Base w w10 H kk EF PF) := HBS9.out.next Hb10.out (by have := HC.out; have := HW9.out; omega)
                            obtain ⟨B6, hW10⟩ : ∃ B6, B6 = w10.heap.size := ⟨_, rfl⟩
                            have HW10 : Hid (B6 = w10.heap.size) := hW10
                            have HZ6 : Hid (B5 ≤ ec ∧ ec < B6) := ⟨by rw [HW9.out]; exact Hg10.out, by rw [HW10.out]; exact Hr10.out.lt⟩
                            have HV10 : Hid (Mk w10 (H + 2) B1 vb nv fv) := HV9.out.next Hb10.out (by have := HC.out; have := HW9.out; omega)
                            have HU10 : Hid (Mk w10 B1 B2 ub ne fe) := HU9.out.next Hb10.out (by have := HC.out; have := HW9.out; omega)
                            have HX10 : Hid (Mk w10 B2 B3 xv nv (clr fv vg vi)) := HX9.out.next Hb10.out (by have := HC.out; have := HW9.out; omega)
                            have HY10 : Hid (Mk w10 B3 B4 yv ne (clr fe eg ei)) := HY9.out.next Hb10.out (by have := HC.out; have := HW9.out; omega)
                            have HP10 : Hid (Row w10 pc (kk + 1) (fun j => .int .i32 (PF j))) := Hr9.out.later Hb10.out.size (Hb10.out.block pc (by have := HC.out; have := HW9.out; omega))
                            clear HBS9 HV9 HU9 HX9 HY9 HW9 Hg10 Hb10 HZ1 HZ2 HZ3 HZ4 HZ5 Hr9
                            obtain ⟨va, vl, vq, hva⟩ := sval_slice vb nv nv
                            obtain ⟨ua, ul, uq, hua⟩ := sval_slice ub ne ne
                            rw [hva, hua]
                            have HVA : Hid (sval vb nv nv = .slice va vl vq) := hva
                            have HUA : Hid (sval ub ne ne = .slice ua ul uq) := hua
                            clear hva hua
                            go_upto_region 44 with fail
                            rw [← HW10.out]
                            clear hW10
                            obtain ⟨T, hT⟩ : ∃ T : Array Value, T = #[Value.pointer none, Value.int IntKind.i64 0, Value.int IntKind.i64 0, Value.int IntKind.i64 0,
                                      Value.int IntKind.i64 0, Value.int IntKind.i64 0, Value.int IntKind.i64 0, Value.slice none 0 0,
                                      Value.slice none 0 0, Value.slice va vl vq, Value.bool vg, Value.slice ua ul uq, Value.bool eg,
                                      Value.slice none 0 0, Value.slice none 0 0, Value.pointer none, Value.slice none 0 0, Value.slice none 0 0,
                                      Value.slice none 0 0, Value.slice (some { block := H + 1, off := 0 }) (kk + 1) (kk + 1),
                                      Value.slice (some { block := H, off := 0 }) kk kk, Value.nilFunc] := ⟨_, rfl⟩
                            rw [← hT]
                            have hpop := pop_fin w w10 H B1 B2 B3 B4 B5 B6 kk m nv ne pc ec vi ei vb ub xv yv va ua vl vq ul uq vg eg fv fe EF PF T (by rw [hT]; rfl) (by rw [hT]; rfl) (by rw [hT]; rfl) (by rw [hT]; rfl) (by rw [hT]; rfl) (by rw [hT]; rfl) HKM.out n1 n2 n3 hvi hei HPF.out HEF.out HVA.out HUA.out HBS10.out HV10.out HU10.out HX10.out HY10.out HP10.out Hr10.out HC.out HZ6.out HW10.out
                            obtain ⟨w11, hw11⟩ : ∃ w11, w11 = w10.alloc (.cells T 58) := ⟨_, rfl⟩
                            rw [← hw11]
                            rw [← hw11] at hpop
                            have HPOP : Hid (Calls Yba.prog 9 #[.pointer (some ⟨B6, 0, none⟩)] w11 _) := hpop
                            have T0 : Hid (T[0]? = some (.pointer none)) := by rw [hT]; rfl
                            have T9 : Hid (T[9]? = some (.slice va vl vq)) := by rw [hT]; rfl
                            have T10 : Hid (T[10]? = some (.bool vg)) := by rw [hT]; rfl
                            have T11 : Hid (T[11]? = some (.slice ua ul uq)) := by rw [hT]; rfl
                            have T12 : Hid (T[12]? = some (.bool eg)) := by rw [hT]; rfl
                            have T13 : Hid (T[13]? = some (.slice none 0 0)) := by rw [hT]; rfl
                            have T14 : Hid (T[14]? = some (.slice none 0 0)) := by rw [hT]; rfl
                            have T21 : Hid (T[21]? = some .nilFunc) := by rw [hT]; rfl
                            clear hpop hw11 hT HBS10 HV10 HU10 HX10 HY10 HP10 Hr10 HC HZ6 HW10
                            have k2 : (kk : Int) - 1 = (m : Int) := by have := HKM.out; omega
                            have k4 : IntKind.i64.wrap (m : Int) = (m : Int) := by rw [IntKind.wrap_i64]; omega
                            go_upto_if 183 with (go_at_call 9; refine HPOP.out.mono ?_; rintro e w12 ⟨rfl, hF⟩; have HF : Hid (Fin w w12 H B6 kk m nv ne pc ec vb ub xv yv EF PF (clr fv vg vi) (clr fe eg ei) T) := hF; have c19 := hF.c19; have c20 := hF.c20; clear hF)
                            go_wp2
                            go_loopw [33] (fun v wr => ∃ t nq : Nat, t ≤ kk ∧ v = .int .i64 t ∧ wr = w12.drewN nq) (fun v _ => kk - (intOf v).toNat)
                            case atStart => exact ⟨0, 0, Nat.zero_le _, rfl, by first | rfl | simp⟩
                            case round =>
                              obtain ⟨t, nq0, ht, rfl, rfl⟩ := hrel
                              by_cases htl : t < kk
                              · have x1 := HF.out.p.cell t (by omega)
                                have x2 := HF.out.pc.cell t (by omega)
                                have b1 : (0 : Int) ≤ (t : Int) := by omega
                                have b2 : (t : Int) < (kk : Int) := by omega
                                have b3 : (t : Int) < (kk : Int) + 1 := by omega
                                go_wp2
                                go_quiet (fail)
                                go_wp2
                                go_roundw
                                case rel => exact ⟨t + 1, _, by omega, by go_num, by first | rfl | exact drewNC _ _ _⟩
                                case measure => simp [intOf]; omega
                              · obtain ⟨w13, hw13⟩ : ∃ w13, w13 = w12.drewN nq0 := ⟨_, rfl⟩
                                rw [← hw13]
                                have HF2 : Hid (Fin w w13 H B6 kk m nv ne pc ec vb ub xv yv EF PF (clr fv vg vi) (clr fe eg ei) T) := HF.out.later _ hw13
                                clear hw13 c19 c20
                                have c19 := HF2.out.c19
                                have c20 := HF2.out.c20
                                clear HF
                                go_wp2
                                go_loopw [34] (fun v wr => ∃ t nq : Nat, t ≤ m ∧ v = .int .i64 t ∧ wr = w13.drewN nq) (fun v _ => m - (intOf v).toNat)
                                case atStart => exact ⟨0, 0, Nat.zero_le _, rfl, by first | rfl | simp⟩
                                case round =>
                                  obtain ⟨t2, nq1, ht2, rfl, rfl⟩ := hrel
                                  by_cases htl2 : t2 < m
                                  · have x1 := HF2.out.e.cell t2 (by have := HKM.out; omega)
                                    have x2 := HF2.out.ec.cell t2 (by have := HKM.out; omega)
                                    have b1 : (0 : Int) ≤ (t2 : Int) := by omega
                                    have b2 : (t2 : Int) < (m : Int) := by omega
                                    have b3 : (t2 : Int) < (kk : Int) := by have := HKM.out; omega
                                    go_wp2
                                    go_quiet (fail)
                                    go_wp2
                                    go_roundw
                                    case rel => exact ⟨t2 + 1, _, by omega, by go_num, by first | rfl | exact drewNC _ _ _⟩
                                    case measure => simp [intOf]; omega
                                  · have d0 := HF2.out.at 0 _ T0.out (by decide) (by decide)
                                    have d9 := HF2.out.at 9 _ T9.out (by decide) (by decide)
                                    have d10 := HF2.out.at 10 _ T10.out (by decide) (by decide)
                                    have d11 := HF2.out.at 11 _ T11.out (by decide) (by decide)
                                    have d12 := HF2.out.at 12 _ T12.out (by decide) (by decide)
                                    have d13 := HF2.out.at 13 _ T13.out (by decide) (by decide)
                                    have d14 := HF2.out.at 14 _ T14.out (by decide) (by decide)
                                    have d21 := HF2.out.at 21 _ T21.out (by decide) (by decide)
                                    have SV : Hid (∀ q, Calls Yba.prog 10 #[.slice va vl vq, sval xv nv xc] (w13.drewN q) fun e w'' => e = .returned (.bool true) ∧ ∃ q', w'' = w13.drewN q') := HF2.out.sameV va vl vq xc n1.2 Hi5.out HVA.out
                                    have SE : Hid (∀ q, Calls Yba.prog 10 #[.slice ua ul uq, sval yv ne yc] (w13.drewN q) fun e w'' => e = .returned (.bool true) ∧ ∃ q', w'' = w13.drewN q') := HF2.out.sameE ua ul uq yc n2.2 Hi7.out HUA.out
                                    have HL : Hid (Below w.heap.size w w13) := by rw [← HH.out]; exact HF2.out.bel
                                    have q5 := eql_nilfunc
                                    clear c19 c20 HPOP T0 T9 T10 T11 T12 T13 T14 T21
                                    go_wp2_with (first
                                      | (go_at_call 10; with_reducible refine (SV.out nq1).mono ?_; rintro e w20 ⟨rfl, q20, rfl⟩)
                                      | (go_at_call 10; with_reducible refine (SE.out q20).mono ?_; rintro e w21 ⟨rfl, q21, rfl⟩)
                                      | (go_at_call 10; with_reducible refine (SV.out q21).mono ?_; rintro e w22 ⟨rfl, q22, rfl⟩)
                                      | (go_at_call 10; with_reducible refine (SE.out q22).mono ?_; rintro e w23 ⟨rfl, q23, rfl⟩)
                                      | go_in)
                                    go_ret
                                    exact ⟨rfl, HL.out.trans (below_drewq _ _ _)⟩
end Go.Proofs.Ybulkdxte
