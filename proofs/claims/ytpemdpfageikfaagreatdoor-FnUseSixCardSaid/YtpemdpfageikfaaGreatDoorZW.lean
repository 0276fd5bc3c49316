/- The body of FnUseSix, on. -/
import Derived.Test.YtpemdpfageikfaaGreatDoorZV
set_option linter.unusedVariables false
set_option linter.unusedSimpArgs false
/- The body of FnUseSix, by what it calls: on. -/
namespace Go.Proofs.YtpemdpfageikfaaGreatDoor.R
open Go.RowKit Go.Proofs.YtpemdpfageikfaaGreatDoorW.PrintWords Go.Proofs.YtpemdpfageikfaaGreatDoorW.PrintLast Go.Proofs.YtpemdpfageikfaaGreatDoorW.PrintMore
attribute [local go_sem] max2_int min2_int max_two min_two

section
variable (x0 x1 x2 x3 x4 x5 x6 x7 x8 x9 x10 x11 x12 x13 x14 x15 y0 y1 y2 y3 y4 y5 y6 y7 y8 y9 y10 y11 y12 y13 y14 y15 : Value) (va vb : Array Value) (hva : va = #[x0, x1, x2, x3, x4, x5, x6, x7, x8, x9, x10, x11, x12, x13, x14, x15]) (hvb : vb = #[y0, y1, y2, y3, y4, y5, y6, y7, y8, y9, y10, y11, y12, y13, y14, y15]) (one1 : ∀ v ∈ va.toList, v.oneCell' = true) (one2 : ∀ v ∈ vb.toList, v.oneCell' = true)
  (A1 A2 : Option Addr) (n1 k1 n2 k2 : Nat) (bits : Int) (port no : ByteArray) (p1 p2 bS bP : Bool) (w : World)
  (hs1 : n1 ≤ 2147483647) (hs2 : n2 ≤ 2147483647) (hs3 : port.size ≤ 2147483647) (hs4 : no.size ≤ 2147483647)
  (h14a : ∀ wx, Below w.heap.size w wx → Calls Tryz.prog 14 #[.slice A1 n1 k1] wx fun e w' => e = .returned (.agg va) ∧ Below wx.heap.size wx w')
  (h14b : ∀ wx, Below w.heap.size w wx → Calls Tryz.prog 14 #[.slice A2 n2 k2] wx fun e w' => e = .returned (.agg vb) ∧ Below wx.heap.size wx w')
  (h15a : ∀ wx, Calls Tryz.prog 15 #[.agg #[x0, x1, x2, x3, x4, x5, x6, x7, x8, x9, x10, x11, x12, x13, x14, x15]] wx fun e w' => e = .returned (.bool p1) ∧ Below wx.heap.size wx w')
  (h15b : ∀ wx, Calls Tryz.prog 15 #[.agg #[y0, y1, y2, y3, y4, y5, y6, y7, y8, y9, y10, y11, y12, y13, y14, y15]] wx fun e w' => e = .returned (.bool p2) ∧ Below wx.heap.size wx w')
  (h8 : ∀ wx, Calls Tryz.prog 8 #[.string no] wx fun e w' => e = .returned (.bool bS) ∧ Below wx.heap.size wx w')
  (h16 : ∀ wx, Calls Tryz.prog 16 #[.string port] wx fun e w' => e = .returned (.bool bP) ∧ Below wx.heap.size wx w')
  (hW : ∀ wx, Below w.heap.size w wx → Calls Tryz.prog 11 #[] wx (Says true wx))
include hva hvb one1 one2 hs1 hs2 hs3 hs4 h14a h14b h15a h15b h8 h16 hW
set_option maxRecDepth 100000 in
set_option maxHeartbeats 8000000 in
theorem six_out5 (q1 : p1 = true) (q2 : p2 = true) (q3 : ¬ bits < 0) (q4 : ¬ 129 < bits) (q5 : bS = false) :
    Calls Tryz.prog 5 #[.slice A1 n1 k1, .int .i64 bits, .slice A2 n2 k2, .string port, .string no] w (Says true w) := by
  have Ha := Lib.hid h14a
  have Hb := Lib.hid h14b
  have Pa := Lib.hid h15a
  have Pb := Lib.hid h15b
  have HS := Lib.hid h8
  have HP := Lib.hid h16
  have HW := Lib.hid hW
  have za : va.size = 16 := by rw [hva]; rfl
  have zb : vb.size = 16 := by rw [hvb]; rfl
  have HVA := Lib.hid hva
  have HVB := Lib.hid hvb
  have Z1 := Lib.hid (fun w2 => two_st1 w2 va (by rw [hva]; rfl) one1)
  have Z2 := Lib.hid (fun w2 => two_st2 w2 va vb (by rw [hvb]; rfl) one2)
  clear h14a h14b h15a h15b h8 h16 hW hva hvb one1 one2
  subst q1 q2 q5
  go_enter Tryz.func5, Tryz.ntmps5
  go_wp2_with fail
  refine (Ha.out _ (Below.refl _ _)).mono ?_
  rintro e w1 ⟨rfl, hb⟩
  have HB1 := Lib.hid hb
  clear hb
  go_wp2_with fail
  refine (Hb.out _ HB1.out).mono ?_
  rintro e w2 ⟨rfl, hb⟩
  have HB2 := Lib.hid (blw HB1.out hb)
  clear hb
  go_wp2_with fail
  rw [← show two0 w2 = (w2.alloc (Obj.cells #[.int .u8 0, .int .u8 0, .int .u8 0, .int .u8 0, .int .u8 0, .int .u8 0, .int .u8 0, .int .u8 0, .int .u8 0, .int .u8 0, .int .u8 0, .int .u8 0, .int .u8 0, .int .u8 0, .int .u8 0, .int .u8 0] 28)).alloc (Obj.cells #[.int .u8 0, .int .u8 0, .int .u8 0, .int .u8 0, .int .u8 0, .int .u8 0, .int .u8 0, .int .u8 0, .int .u8 0, .int .u8 0, .int .u8 0, .int .u8 0, .int .u8 0, .int .u8 0, .int .u8 0, .int .u8 0] 28) from rfl, Z1.out w2]
  rw [decide_eq_false (show ¬ (2147483647 : Int) < n1 by omega), decide_eq_false (show ¬ (2147483647 : Int) < n2 by omega), decide_eq_false (show ¬ (2147483647 : Int) < port.size by omega), decide_eq_false (show ¬ (2147483647 : Int) < no.size by omega)]
  go_wp2_with fail
  rw [Z2.out w2]
  obtain ⟨W, hWe, hWb, hWx⟩ := two_boxes w2 va vb
  rw [← hWe]
  have HBW := Lib.hid (blw HB2.out hWb)
  rw [HVA.out, HVB.out] at hWx
  have HX := Lib.hid hWx
  obtain ⟨C1, C2⟩ := HX.out W (Below.refl _ _)
  clear hWe hWb hWx Z1 Z2 HVA HVB Ha Hb
  go_wp2_with fail
  refine (Pa.out _).mono ?_
  rintro e w3 ⟨rfl, hb⟩
  have HB3 := Lib.hid (blw HBW.out hb)
  have HX3 := Lib.hid hb
  clear hb C1 C2 Pa
  obtain ⟨-, C3⟩ := HX.out _ HX3.out
  go_wp2_with fail
  refine (Pb.out _).mono ?_
  rintro e w4 ⟨rfl, hb⟩
  have HB4 := Lib.hid (blw HB3.out hb)
  have HX4 := Lib.hid (blw HX3.out hb)
  clear hb C3 Pb
  go_wp2_with fail
  refine (HS.out _).mono ?_
  rintro e w5 ⟨rfl, hb⟩
  have HB5 := Lib.hid (blw HB4.out hb)
  have HX5 := Lib.hid (blw HX4.out hb)
  clear hb HS
  go_wp2_with fail
  refine (HW.out _ HB5.out).mono ?_
  rintro e w9 ⟨rfl, hb⟩
  have HB9 := Lib.hid (blw HB5.out hb)
  clear hb
  go_wp2
  go_ret
  exact ⟨rfl, HB9.out⟩
set_option maxRecDepth 100000 in
set_option maxHeartbeats 8000000 in
theorem six_out6 (q1 : p1 = true) (q2 : p2 = true) (q3 : ¬ bits < 0) (q4 : ¬ 129 < bits) (q5 : bS = true) (q6 : 300 < no.size) :
    Calls Tryz.prog 5 #[.slice A1 n1 k1, .int .i64 bits, .slice A2 n2 k2, .string port, .string no] w (Says true w) := by
  have Ha := Lib.hid h14a
  have Hb := Lib.hid h14b
  have Pa := Lib.hid h15a
  have Pb := Lib.hid h15b
  have HS := Lib.hid h8
  have HP := Lib.hid h16
  have HW := Lib.hid hW
  have za : va.size = 16 := by rw [hva]; rfl
  have zb : vb.size = 16 := by rw [hvb]; rfl
  have HVA := Lib.hid hva
  have HVB := Lib.hid hvb
  have Z1 := Lib.hid (fun w2 => two_st1 w2 va (by rw [hva]; rfl) one1)
  have Z2 := Lib.hid (fun w2 => two_st2 w2 va vb (by rw [hvb]; rfl) one2)
  clear h14a h14b h15a h15b h8 h16 hW hva hvb one1 one2
  subst q1 q2 q5
  go_enter Tryz.func5, Tryz.ntmps5
  go_wp2_with fail
  refine (Ha.out _ (Below.refl _ _)).mono ?_
  rintro e w1 ⟨rfl, hb⟩
  have HB1 := Lib.hid hb
  clear hb
  go_wp2_with fail
  refine (Hb.out _ HB1.out).mono ?_
  rintro e w2 ⟨rfl, hb⟩
  have HB2 := Lib.hid (blw HB1.out hb)
  clear hb
  go_wp2_with fail
  rw [← show two0 w2 = (w2.alloc (Obj.cells #[.int .u8 0, .int .u8 0, .int .u8 0, .int .u8 0, .int .u8 0, .int .u8 0, .int .u8 0, .int .u8 0, .int .u8 0, .int .u8 0, .int .u8 0, .int .u8 0, .int .u8 0, .int .u8 0, .int .u8 0, .int .u8 0] 28)).alloc (Obj.cells #[.int .u8 0, .int .u8 0, .int .u8 0, .int .u8 0, .int .u8 0, .int .u8 0, .int .u8 0, .int .u8 0, .int .u8 0, .int .u8 0, .int .u8 0, .int .u8 0, .int .u8 0, .int .u8 0, .int .u8 0, .int .u8 0] 28) from rfl, Z1.out w2]
  rw [decide_eq_false (show ¬ (2147483647 : Int) < n1 by omega), decide_eq_false (show ¬ (2147483647 : Int) < n2 by omega), decide_eq_false (show ¬ (2147483647 : Int) < port.size by omega), decide_eq_false (show ¬ (2147483647 : Int) < no.size by omega)]
  go_wp2_with fail
  rw [Z2.out w2]
  obtain ⟨W, hWe, hWb, hWx⟩ := two_boxes w2 va vb
  rw [← hWe]
  have HBW := Lib.hid (blw HB2.out hWb)
  rw [HVA.out, HVB.out] at hWx
  have HX := Lib.hid hWx
  obtain ⟨C1, C2⟩ := HX.out W (Below.refl _ _)
  clear hWe hWb hWx Z1 Z2 HVA HVB Ha Hb
  go_wp2_with fail
  refine (Pa.out _).mono ?_
  rintro e w3 ⟨rfl, hb⟩
  have HB3 := Lib.hid (blw HBW.out hb)
  have HX3 := Lib.hid hb
  clear hb C1 C2 Pa
  obtain ⟨-, C3⟩ := HX.out _ HX3.out
  go_wp2_with fail
  refine (Pb.out _).mono ?_
  rintro e w4 ⟨rfl, hb⟩
  have HB4 := Lib.hid (blw HB3.out hb)
  have HX4 := Lib.hid (blw HX3.out hb)
  clear hb C3 Pb
  go_wp2_with fail
  refine (HS.out _).mono ?_
  rintro e w5 ⟨rfl, hb⟩
  have HB5 := Lib.hid (blw HB4.out hb)
  have HX5 := Lib.hid (blw HX4.out hb)
  clear hb HS
  go_wp2_with fail
  refine (HW.out _ HB5.out).mono ?_
  rintro e w9 ⟨rfl, hb⟩
  have HB9 := Lib.hid (blw HB5.out hb)
  clear hb
  go_wp2
  go_ret
  exact ⟨rfl, HB9.out⟩
set_option maxRecDepth 100000 in
set_option maxHeartbeats 8000000 in
theorem six_out7 (q1 : p1 = true) (q2 : p2 = true) (q3 : ¬ bits < 0) (q4 : ¬ 129 < bits) (q5 : bS = true) (q6 : ¬ 300 < no.size) (q7 : bP = false) :
    Calls Tryz.prog 5 #[.slice A1 n1 k1, .int .i64 bits, .slice A2 n2 k2, .string port, .string no] w (Says true w) := by
  have Ha := Lib.hid h14a
  have Hb := Lib.hid h14b
  have Pa := Lib.hid h15a
  have Pb := Lib.hid h15b
  have HS := Lib.hid h8
  have HP := Lib.hid h16
  have HW := Lib.hid hW
  have za : va.size = 16 := by rw [hva]; rfl
  have zb : vb.size = 16 := by rw [hvb]; rfl
  have HVA := Lib.hid hva
  have HVB := Lib.hid hvb
  have Z1 := Lib.hid (fun w2 => two_st1 w2 va (by rw [hva]; rfl) one1)
  have Z2 := Lib.hid (fun w2 => two_st2 w2 va vb (by rw [hvb]; rfl) one2)
  clear h14a h14b h15a h15b h8 h16 hW hva hvb one1 one2
  subst q1 q2 q5 q7
  go_enter Tryz.func5, Tryz.ntmps5
  go_wp2_with fail
  refine (Ha.out _ (Below.refl _ _)).mono ?_
  rintro e w1 ⟨rfl, hb⟩
  have HB1 := Lib.hid hb
  clear hb
  go_wp2_with fail
  refine (Hb.out _ HB1.out).mono ?_
  rintro e w2 ⟨rfl, hb⟩
  have HB2 := Lib.hid (blw HB1.out hb)
  clear hb
  go_wp2_with fail
  rw [← show two0 w2 = (w2.alloc (Obj.cells #[.int .u8 0, .int .u8 0, .int .u8 0, .int .u8 0, .int .u8 0, .int .u8 0, .int .u8 0, .int .u8 0, .int .u8 0, .int .u8 0, .int .u8 0, .int .u8 0, .int .u8 0, .int .u8 0, .int .u8 0, .int .u8 0] 28)).alloc (Obj.cells #[.int .u8 0, .int .u8 0, .int .u8 0, .int .u8 0, .int .u8 0, .int .u8 0, .int .u8 0, .int .u8 0, .int .u8 0, .int .u8 0, .int .u8 0, .int .u8 0, .int .u8 0, .int .u8 0, .int .u8 0, .int .u8 0] 28) from rfl, Z1.out w2]
  rw [decide_eq_false (show ¬ (2147483647 : Int) < n1 by omega), decide_eq_false (show ¬ (2147483647 : Int) < n2 by omega), decide_eq_false (show ¬ (2147483647 : Int) < port.size by omega), decide_eq_false (show ¬ (2147483647 : Int) < no.size by omega)]
  go_wp2_with fail
  rw [Z2.out w2]
  obtain ⟨W, hWe, hWb, hWx⟩ := two_boxes w2 va vb
  rw [← hWe]
  have HBW := Lib.hid (blw HB2.out hWb)
  rw [HVA.out, HVB.out] at hWx
  have HX := Lib.hid hWx
  obtain ⟨C1, C2⟩ := HX.out W (Below.refl _ _)
  clear hWe hWb hWx Z1 Z2 HVA HVB Ha Hb
  go_wp2_with fail
  refine (Pa.out _).mono ?_
  rintro e w3 ⟨rfl, hb⟩
  have HB3 := Lib.hid (blw HBW.out hb)
  have HX3 := Lib.hid hb
  clear hb C1 C2 Pa
  obtain ⟨-, C3⟩ := HX.out _ HX3.out
  go_wp2_with fail
  refine (Pb.out _).mono ?_
  rintro e w4 ⟨rfl, hb⟩
  have HB4 := Lib.hid (blw HB3.out hb)
  have HX4 := Lib.hid (blw HX3.out hb)
  clear hb C3 Pb
  go_wp2_with fail
  refine (HS.out _).mono ?_
  rintro e w5 ⟨rfl, hb⟩
  have HB5 := Lib.hid (blw HB4.out hb)
  have HX5 := Lib.hid (blw HX4.out hb)
  clear hb HS
  go_wp2_with fail
  refine (HP.out _).mono ?_
  rintro e w6 ⟨rfl, hb⟩
  have HB6 := Lib.hid (blw HB5.out hb)
  have HX6 := Lib.hid (blw HX5.out hb)
  clear hb HP
  go_wp2_with fail
  refine (HW.out _ HB6.out).mono ?_
  rintro e w9 ⟨rfl, hb⟩
  have HB9 := Lib.hid (blw HB6.out hb)
  clear hb
  go_wp2
  go_ret
  exact ⟨rfl, HB9.out⟩
end
end Go.Proofs.YtpemdpfageikfaaGreatDoor.R
