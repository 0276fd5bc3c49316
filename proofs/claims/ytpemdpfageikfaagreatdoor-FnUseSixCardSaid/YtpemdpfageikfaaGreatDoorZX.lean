/- The body of FnUseSix: all guards pass, at most 128 bits. -/
import Derived.Test.YtpemdpfageikfaaGreatDoorZXw
set_option linter.unusedVariables false
set_option linter.unusedSimpArgs false
/- The body of FnUseSix, by what it calls: all guards pass. -/
namespace Go.Proofs.YtpemdpfageikfaaGreatDoor.R
open Go.RowKit Go.Proofs.YtpemdpfageikfaaGreatDoorW.PrintWords Go.Proofs.YtpemdpfageikfaaGreatDoorW.PrintLast Go.Proofs.YtpemdpfageikfaaGreatDoorW.PrintMore
attribute [local go_sem] max2_int min2_int max_two min_two

section
variable (x0 x1 x2 x3 x4 x5 x6 x7 x8 x9 x10 x11 x12 x13 x14 x15 y0 y1 y2 y3 y4 y5 y6 y7 y8 y9 y10 y11 y12 y13 y14 y15 : Value) (va vb : Array Value) (hva : va = #[x0, x1, x2, x3, x4, x5, x6, x7, x8, x9, x10, x11, x12, x13, x14, x15]) (hvb : vb = #[y0, y1, y2, y3, y4, y5, y6, y7, y8, y9, y10, y11, y12, y13, y14, y15]) (one1 : ∀ v ∈ va.toList, v.oneCell' = true) (one2 : ∀ v ∈ vb.toList, v.oneCell' = true)
  (A1 A2 : Option Addr) (n1 k1 n2 k2 : Nat) (bits : Int) (port no : ByteArray) (p1 p2 bS bP : Bool) (w : World)
  (hs1 : n1 ≤ 2147483647) (hs2 : n2 ≤ 2147483647) (hs3 : port.size ≤ 2147483647) (hs4 : no.size ≤ 2147483647)
  (h14a : ∀ wx, Below w.heap.size w wx → Calls Tryz.prog 14 #[.slice A1 n1 k1] wx fun e w' => e = .returned (.agg va) ∧ Below wx.heap.size wx w')
  (h14b : ∀ wx, Below w.heap.size w wx → Calls Tryz.prog 14 #[.slice A2 n2 k2] wx fun e w' => e = .returned (.agg vb) ∧ Below wx.heap.size wx w')
  (h15a : ∀ wx, Calls Tryz.prog 15 #[.agg #[x0, x1, x2, x3, x4, x5, x6, x7, x8, x9, x10, x11, x12, x13, x14, x15]] wx fun e w' => e = .returned (.bool p1) ∧ Below wx.heap.size wx w')
  (h15b : ∀ wx, Calls Tryz.prog 15 #[.agg #[y0, y1, y2, y3, y4, y5, y6, y7, y8, y9, y10, y11, y12, y13, y14, y15]] wx fun e w' => e = .returned (.bool p2) ∧ Below wx.heap.size wx w')
  (h8 : ∀ wx, Calls Tryz.prog 8 #[.string no] wx fun e w' => e = .returned (.bool bS) ∧ Below wx.heap.size wx w')
  (h16 : ∀ wx, Calls Tryz.prog 16 #[.string port] wx fun e w' => e = .returned (.bool bP) ∧ Below wx.heap.size wx w')
  (hW : ∀ wx, Below w.heap.size w wx → Calls Tryz.prog 11 #[] wx (Says true wx))
include hva hvb one1 one2 hs1 hs2 hs3 hs4 h14a h14b h15a h15b h8 h16 hW
set_option maxRecDepth 100000 in
set_option maxHeartbeats 16000000 in
theorem six_go_le (xs ys : List Value) (hxs : va.toList = xs) (hys : vb.toList = ys) (bg bX r : Bool) (n : Nat) (hn : n ≤ 128) (hbits : bits = (n : Int)) (q1 : p1 = true) (q2 : p2 = true) (q5 : bS = true) (q6 : no.size ≤ 300) (q7 : bP = true) (q8 : port.size ≤ 20) (sb ab lb : ByteArray) (hsb : sb.size ≤ 100) (hlb : lb = no ++ (⟨#[44]⟩ : ByteArray) ++ sb)
    (h17 : ∀ wx, Calls Tryz.prog 17 #[.agg #[x0, x1, x2, x3, x4, x5, x6, x7, x8, x9, x10, x11, x12, x13, x14, x15], .agg #[y0, y1, y2, y3, y4, y5, y6, y7, y8, y9, y10, y11, y12, y13, y14, y15], .int .i64 n] wx fun e w' => e = .returned (.bool bg) ∧ Below wx.heap.size wx w')
    (h18 : ∀ wx, Calls Tryz.prog 18 #[.string no] wx fun e w' => e = .returned (.bool bX) ∧ Below wx.heap.size wx w')
    (h19 : ∀ wx, Calls Tryz.prog 19 #[.agg xs.toArray, .int .i64 n] wx fun e w' => e = .returned (.string sb) ∧ Below wx.heap.size wx w')
    (h20 : ∀ wx, Calls Tryz.prog 20 #[.agg ys.toArray, .string port] wx fun e w' => e = .returned (.string ab) ∧ Below wx.heap.size wx w')
    (h12 : ∀ wx, Below w.heap.size w wx → Calls Tryz.prog 12 #[.string lb, .string ab] wx (Says r wx)) (hr : r = (!bg && !bX)) :
    Calls Tryz.prog 5 #[.slice A1 n1 k1, .int .i64 bits, .slice A2 n2 k2, .string port, .string no] w (Says true w) := by
  have Ha := Lib.hid h14a
  have Hb := Lib.hid h14b
  have Pa := Lib.hid h15a
  have Pb := Lib.hid h15b
  have HS := Lib.hid h8
  have HP := Lib.hid h16
  have HW := Lib.hid hW
  have za : va.size = 16 := by rw [hva]; rfl
  have zb : vb.size = 16 := by rw [hvb]; rfl
  have HVA := Lib.hid hva
  have HVB := Lib.hid hvb
  have Z1 := Lib.hid (fun w2 => two_st1 w2 va (by rw [hva]; rfl) one1)
  have Z2 := Lib.hid (fun w2 => two_st2 w2 va vb (by rw [hvb]; rfl) one2)
  clear h14a h14b h15a h15b h8 h16 hW hva hvb one1 one2
  have HG := Lib.hid h17
  have HX8 := Lib.hid h18
  have HT := Lib.hid h19
  have HA := Lib.hid h20
  have HU := Lib.hid h12
  have HR := Lib.hid hr
  have s9 : (no ++ (⟨#[44]⟩ : ByteArray)).size = no.size + 1 := by rw [ByteArray.size_append]; rfl
  have HI1 := Lib.hid (show (Tryz.prog.info? 28).map (fun i => i.size) = some xs.length from by rw [← hxs, Array.length_toList, za]; exact info28)
  have HI2 := Lib.hid (show (Tryz.prog.info? 28).map (fun i => i.size) = some ys.length from by rw [← hys, Array.length_toList, zb]; exact info28)
  subst q1 q2 q5 q7 hbits hlb
  have HXS := Lib.hid hxs
  have HYS := Lib.hid hys
  clear h17 h18 h19 h20 h12 hr hxs hys
  go_enter Tryz.func5, Tryz.ntmps5
  go_wp2_with fail
  refine (Ha.out _ (Below.refl _ _)).mono ?_
  rintro e w1 ⟨rfl, hb⟩
  have HB1 := Lib.hid hb
  clear hb
  go_wp2_with fail
  refine (Hb.out _ HB1.out).mono ?_
  rintro e w2 ⟨rfl, hb⟩
  have HB2 := Lib.hid (blw HB1.out hb)
  clear hb
  go_wp2_with fail
  rw [← show two0 w2 = (w2.alloc (Obj.cells #[.int .u8 0, .int .u8 0, .int .u8 0, .int .u8 0, .int .u8 0, .int .u8 0, .int .u8 0, .int .u8 0, .int .u8 0, .int .u8 0, .int .u8 0, .int .u8 0, .int .u8 0, .int .u8 0, .int .u8 0, .int .u8 0] 28)).alloc (Obj.cells #[.int .u8 0, .int .u8 0, .int .u8 0, .int .u8 0, .int .u8 0, .int .u8 0, .int .u8 0, .int .u8 0, .int .u8 0, .int .u8 0, .int .u8 0, .int .u8 0, .int .u8 0, .int .u8 0, .int .u8 0, .int .u8 0] 28) from rfl, Z1.out w2]
  rw [decide_eq_false (show ¬ (2147483647 : Int) < n1 by omega), decide_eq_false (show ¬ (2147483647 : Int) < n2 by omega), decide_eq_false (show ¬ (2147483647 : Int) < port.size by omega), decide_eq_false (show ¬ (2147483647 : Int) < no.size by omega)]
  go_wp2_with fail
  rw [Z2.out w2]
  obtain ⟨W, hWe, hWb, hWx⟩ := two_boxes w2 va vb
  rw [← hWe]
  have HBW := Lib.hid (blw HB2.out hWb)
  have hWv := fun wr hb => rangeS (hWx wr hb)
  rw [HXS.out, HYS.out] at hWv
  have HXv := Lib.hid hWv
  rw [HVA.out, HVB.out] at hWx
  have HX := Lib.hid hWx
  obtain ⟨C1, C2⟩ := HX.out W (Below.refl _ _)
  clear hWe hWb hWx hWv Z1 Z2 HVA HVB Ha Hb
  go_wp2_with fail
  refine (Pa.out _).mono ?_
  rintro e w3 ⟨rfl, hb⟩
  have HB3 := Lib.hid (blw HBW.out hb)
  have HX3 := Lib.hid hb
  clear hb C1 C2 Pa
  obtain ⟨-, C3⟩ := HX.out _ HX3.out
  go_wp2_with fail
  refine (Pb.out _).mono ?_
  rintro e w4 ⟨rfl, hb⟩
  have HB4 := Lib.hid (blw HB3.out hb)
  have HX4 := Lib.hid (blw HX3.out hb)
  clear hb C3 Pb
  go_wp2_with fail
  refine (HS.out _).mono ?_
  rintro e w5 ⟨rfl, hb⟩
  have HB5 := Lib.hid (blw HB4.out hb)
  have HX5 := Lib.hid (blw HX4.out hb)
  clear hb HS
  go_wp2_with fail
  refine (HP.out _).mono ?_
  rintro e w6 ⟨rfl, hb⟩
  have HB6 := Lib.hid (blw HB5.out hb)
  have HX6 := Lib.hid (blw HX5.out hb)
  clear hb HP
  go_upto_if 66 with fail
  go_cut [] from 14 to 66 (fun wx => Hid (Below w.heap.size w wx) ∧ Hid (Below W.heap.size W wx))
  case first =>
    go_wp2
    go_meet
    case rel => exact ⟨HB6, HX6⟩
  case rest =>
    clear HB1 HB2 HBW HB3 HX3 HB4 HX4 HB5 HX5 HB6 HX6
    obtain ⟨HB6, HX6⟩ := hcut
    go_upto_region 6 with fail
    go_cut [13] from 68 to 78 (fun v13 wx => v13 = .bool r ∧ Hid (Below w.heap.size w wx) ∧ Hid (Below W.heap.size W wx))
    case first =>
      obtain ⟨C5, C6⟩ := HX.out _ HX6.out
      cases bg with
      | true =>
        go_wp2_with fail
        refine (HG.out _).mono ?_
        rintro e w7 ⟨rfl, hb⟩
        have HB7 := Lib.hid (blw HB6.out hb)
        have HX7 := Lib.hid (blw HX6.out hb)
        clear hb C5 C6 HG
        have er := HR.out
        simp only [Bool.not_true, Bool.false_and] at er
        go_wp2
        go_meet
        case rel => exact ⟨congrArg Value.bool er.symm, HB7, HX7⟩
      | false =>
        go_wp2_with fail
        refine (HG.out _).mono ?_
        rintro e w7 ⟨rfl, hb⟩
        have HB7 := Lib.hid (blw HB6.out hb)
        have HX7 := Lib.hid (blw HX6.out hb)
        clear hb C5 C6 HG
        have er := HR.out
        simp only [Bool.not_false, Bool.true_and] at er
        go_wp2_with fail
        refine (HX8.out _).mono ?_
        rintro e w8 ⟨rfl, hb⟩
        have HB8 := Lib.hid (blw HB7.out hb)
        have HY8 := Lib.hid (blw HX7.out hb)
        clear hb
        go_wp2
        go_meet
        case rel => exact ⟨congrArg Value.bool er.symm, HB8, HY8⟩
    case rest =>
      obtain ⟨rfl, HBs, HXs⟩ := hcut
      obtain ⟨R1, R2⟩ := HXv.out _ HXs.out
      have hu28 := Tryz.underlying28
      have z44 : (⟨#[44]⟩ : ByteArray).size = 1 := rfl
      have hz1 : no.size + 1 ≤ 9223372036854775807 := by omega
      have hz2 : no.size + 1 + sb.size ≤ 9223372036854775807 := by omega
      have hz3 : ¬ 9223372036854775807 < no.size + 1 := by omega
      have hz4 : ¬ 9223372036854775807 < no.size + 1 + sb.size := by omega
      have hi1 : (Tryz.prog.info? 28).map (fun i => i.size) = some xs.length := HI1.out
      have hi2 : (Tryz.prog.info? 28).map (fun i => i.size) = some ys.length := HI2.out
      clear HB6 HX6 HG HX8 HR HX HXv HXs HI1 HI2
      go_upto_region 7 with fail
      refine wp_region_held_drew (S := (fun wr => Below w.heap.size w wr ∧ wr.rangeAt w2.heap.size 0 xs ∧ wr.rangeAt (w2.heap.size + 1) 0 ys)) (by kernel_rfl) ⟨below_drew HBs.out, R1, R2⟩ (fun hS0 => ?_)
      refine wpAnyH_ready (rs := [0]) (by kernel_rfl) (by simp) ?_
      refine AllReadyH.cons rfl (fun K hK => ?_) AllReadyH.nil
      go_simp
      go_wp2_with (go_at_call 11; refine (HW.out _ hS0.1).mono ?_; rintro e w8 ⟨rfl, hbk⟩)
      have hS1 := keepS hS0 hbk
      refine hK.out _ _ hS1 (fun _ => ?_)
      clear hK K hbk
      refine takeH (i := 1) (N := some 80) (v := .bool true) rfl rfl (by kernel_rfl) (by kernel_rfl) (by kernel_rfl) (fun _ _ _ h => h) (Or.inl ⟨by rfl, by intro wq hSq; clear hSq; go_simp⟩) hS1 ?_
      simp only [Act.put, List.setIfInBounds_toArray, List.set_cons_zero, List.set_cons_succ]
      refine takeH (i := 2) (N := some 81) (v := .string no) rfl rfl (by kernel_rfl) (by kernel_rfl) (by kernel_rfl) (fun _ _ _ h => h) (Or.inl ⟨by rfl, by intro wq hSq; clear hSq; go_simp⟩) hS1 ?_
      simp only [Act.put, List.setIfInBounds_toArray, List.set_cons_zero, List.set_cons_succ]
      refine takeH (i := 3) (N := some 82) (v := .string (no ++ (⟨#[44]⟩ : ByteArray))) rfl rfl (by kernel_rfl) (by kernel_rfl) (by kernel_rfl) (fun _ _ _ h => h) (Or.inl ⟨by rfl, by intro wq hSq; clear hSq; go_simp⟩) hS1 ?_
      simp only [Act.put, List.setIfInBounds_toArray, List.set_cons_zero, List.set_cons_succ]
      refine takeH (i := 4) (N := some 83) (v := .agg xs.toArray) rfl rfl (by kernel_rfl) (by kernel_rfl) (by kernel_rfl) (fun _ _ _ h => h) (yieldsIf_load_mid (by rfl) 28 (.tmp 11) rfl w2.heap.size 0 rfl xs _ (fun _ h => h.2.1) hu28 rfl hi1) hS1 ?_
      simp only [Act.put, List.setIfInBounds_toArray, List.set_cons_zero, List.set_cons_succ]
      refine takeH (i := 5) (N := some 84) (v := .int .i64 n) rfl rfl (by kernel_rfl) (by kernel_rfl) (by kernel_rfl) (fun _ _ _ h => h) (Or.inl ⟨by rfl, by intro wq hSq; clear hSq; go_simp⟩) hS1 ?_
      simp only [Act.put, List.setIfInBounds_toArray, List.set_cons_zero, List.set_cons_succ]
      refine takeH (i := 8) (N := some 87) (v := .agg ys.toArray) rfl rfl (by kernel_rfl) (by kernel_rfl) (by kernel_rfl) (fun _ _ _ h => h) (yieldsIf_load_mid (by rfl) 28 (.tmp 12) rfl (w2.heap.size + 1) 0 rfl ys _ (fun _ h => h.2.2) hu28 rfl hi2) hS1 ?_
      simp only [Act.put, List.setIfInBounds_toArray, List.set_cons_zero, List.set_cons_succ]
      refine takeH (i := 9) (N := some 88) (v := .string port) rfl rfl (by kernel_rfl) (by kernel_rfl) (by kernel_rfl) (fun _ _ _ h => h) (Or.inl ⟨by rfl, by intro wq hSq; clear hSq; go_simp⟩) hS1 ?_
      simp only [Act.put, List.setIfInBounds_toArray, List.set_cons_zero, List.set_cons_succ]
      refine takeH (i := 12) (N := some 91) (v := .bool r) rfl rfl (by kernel_rfl) (by kernel_rfl) (by kernel_rfl) (fun _ _ _ h => h) (Or.inl ⟨by rfl, by intro wq hSq; clear hSq; go_simp⟩) hS1 ?_
      simp only [Act.put, List.setIfInBounds_toArray, List.set_cons_zero, List.set_cons_succ]
      refine wpAnyH_ready (rs := [6]) (by kernel_rfl) (by simp) ?_
      refine AllReadyH.cons rfl (fun K hK => ?_) AllReadyH.nil
      go_simp
      go_wp2_with (go_at_call 19; refine (HT.out _).mono ?_; rintro e w9 ⟨rfl, hbk⟩)
      have hS2 := keepS hS1 hbk
      refine hK.out _ _ hS2 (fun _ => ?_)
      clear hK K hbk
      refine takeH (i := 7) (N := some 86) (v := .string (no ++ (⟨#[44]⟩ : ByteArray) ++ sb)) rfl rfl (by kernel_rfl) (by kernel_rfl) (by kernel_rfl) (fun _ _ _ h => h) (Or.inl ⟨by rfl, by intro wq hSq; clear hSq; go_simp⟩) hS2 ?_
      simp only [Act.put, List.setIfInBounds_toArray, List.set_cons_zero, List.set_cons_succ]
      refine wpAnyH_ready (rs := [10]) (by kernel_rfl) (by simp) ?_
      refine AllReadyH.cons rfl (fun K hK => ?_) AllReadyH.nil
      go_simp
      go_wp2_with (go_at_call 20; refine (HA.out _).mono ?_; rintro e w10 ⟨rfl, hbk⟩)
      have hS3 := keepS hS2 hbk
      refine hK.out _ _ hS3 (fun _ => ?_)
      clear hK K hbk
      refine wpAnyH_ready (rs := [11]) (by kernel_rfl) (by simp) ?_
      refine AllReadyH.cons rfl (fun K hK => ?_) AllReadyH.nil
      go_simp
      go_wp2_with (go_at_call 12; refine (HU.out _ hS3.1).mono ?_; rintro e w11 ⟨rfl, hbk⟩)
      have hS4 := keepS hS3 hbk
      refine hK.out _ _ hS4 (fun _ => ?_)
      clear hK K hbk
      refine takeH (i := 13) (N := some 92) (v := .bool true) rfl rfl (by kernel_rfl) (by kernel_rfl) (by kernel_rfl) (fun _ _ _ h => h) (Or.inl ⟨by rfl, by intro wq hSq; clear hSq; go_simp⟩) hS4 ?_
      simp only [Act.put, List.setIfInBounds_toArray, List.set_cons_zero, List.set_cons_succ]
      refine takeH (i := 14) (N := some 93) (v := .bool true) rfl rfl (by kernel_rfl) (by kernel_rfl) (by kernel_rfl) (fun _ _ _ h => h) (Or.inl ⟨by rfl, by intro wq hSq; clear hSq; go_simp⟩) hS4 ?_
      simp only [Act.put, List.setIfInBounds_toArray, List.set_cons_zero, List.set_cons_succ]
      refine takeH (i := 15) (N := some 10) (v := .bool true) rfl rfl (by kernel_rfl) (by kernel_rfl) (by kernel_rfl) (fun _ _ _ h => h) (Or.inl ⟨by rfl, by intro wq hSq; clear hSq; go_simp⟩) hS4 ?_
      simp only [Act.put, List.setIfInBounds_toArray, List.set_cons_zero, List.set_cons_succ]
      refine wpAnyH_done (by kernel_rfl) ?_ _
      go_wp2
      go_ret
      refine ⟨?_, hS4.1⟩
      first | rfl | (simp [Act.put]; done) | (simp [Act.put, go_sem]; done)
end
end Go.Proofs.YtpemdpfageikfaaGreatDoor.R
