/- Contracts of IP.Mask and IP.Equal, printed by the kit. -/
import Derived.Test.YtpemdpfageikfaaGreatDoorZQa
set_option linter.unusedVariables false
set_option linter.unusedSimpArgs false
/-
  Contract of IP.Mask.
  Written by the kit's print.sh for this seat, sections of it laid into this text by a small program (wip/tools/mkq.py); namespace Q.
-/
namespace Go.Proofs.YtpemdpfageikfaaGreatDoor.Q
open Go.RowKit Go.Proofs.YtpemdpfageikfaaGreatDoorW.PrintWords Go.Proofs.YtpemdpfageikfaaGreatDoorW.PrintLast Go.Proofs.YtpemdpfageikfaaGreatDoorW.PrintMore
attribute [local go_sem] max2_int min2_int max_two min_two max_three min_three max_four min_four   -- for this text's walks alone
set_option linter.unusedVariables false
set_option linter.unusedSimpArgs false

/-! ### netcidr_IP_Mask: function 78 -/
mutual
def netcidr_IP_Mask.j0 : Nat → List Int → List Int → Bool → Option (List Int)
  | 0, _, _, _ => none
  | k + 1, x0, x1, x20 => if x20 = true then (if 12 ≤ (x1.length : Int) then (netcidr_IP_Mask.j1 k x0 (x1.drop 12)) else (none)) else (netcidr_IP_Mask.j1 k x0 x1)
def netcidr_IP_Mask.j1 : Nat → List Int → List Int → Option (List Int)
  | 0, _, _ => none
  | k + 1, x0, x1 => if (x1.length : Int) = 4 then (if (x0.length : Int) = 16 then (if 12 ≤ (x0.length : Int) then ((netcidr_v4InV6Prefix.f).bind fun t220 => ((bytes_Equal.f (x0.take 12) t220).bind fun t223 => (netcidr_IP_Mask.j2 k x0 x1 t223))) else (none)) else (netcidr_IP_Mask.j2 k x0 x1 false)) else (netcidr_IP_Mask.j2 k x0 x1 false)
def netcidr_IP_Mask.j2 : Nat → List Int → List Int → Bool → Option (List Int)
  | 0, _, _, _ => none
  | k + 1, x0, x1, x36 => if x36 = true then (if 12 ≤ (x0.length : Int) then (netcidr_IP_Mask.j3 k (x0.drop 12) x1) else (none)) else (netcidr_IP_Mask.j3 k x0 x1)
def netcidr_IP_Mask.j3 : Nat → List Int → List Int → Option (List Int)
  | 0, _, _ => none
  | k + 1, x0, x1 => if (x0.length : Int) = (x1.length : Int) then (if 0 ≤ (x0.length : Int) then (if ((x0.length : Int) : Int).toNat ≤ 281474976710656 then (netcidr_IP_Mask.l0 k x0 x1 (x0.length : Int) (List.replicate ((x0.length : Int) : Int).toNat 0) 0) else (none)) else (none)) else (some ([] : List Int))
def netcidr_IP_Mask.l0 : Nat → List Int → List Int → Int → List Int → Int → Option (List Int)
  | 0, _, _, _, _, _ => none
  | k + 1, x0, x1, x5, x6, x7 => if x7 < x5 then (if 0 ≤ x7 then (if x7 < (x0.length : Int) then (if x7 < (x1.length : Int) then (if x7 < (x6.length : Int) then (netcidr_IP_Mask.l0 k x0 x1 x5 (x6.set (x7 : Int).toNat (Go.bits .and .u8 (rd x0 x7) (rd x1 x7))) (wrap64 (x7 + 1))) else (none)) else (none)) else (none)) else (none)) else (some x6)
end
def netcidr_IP_Mask.f (k : Nat) (l0 : List Int) (l1 : List Int) : Option (List Int) := if (l1.length : Int) = 16 then (if (l0.length : Int) = 4 then (if 12 ≤ (l1.length : Int) then ((netcidr_allFF.f k (l1.take 12)).bind fun t209 => (netcidr_IP_Mask.j0 k l0 l1 t209)) else (none)) else (netcidr_IP_Mask.j0 k l0 l1 false)) else (netcidr_IP_Mask.j0 k l0 l1 false)
theorem netcidr_IP_Mask.mono_l : ∀ k, (∀ y0 y1 y2, LeO (netcidr_IP_Mask.j0 k y0 y1 y2) (netcidr_IP_Mask.j0 (k + 1) y0 y1 y2)) ∧ (∀ y0 y1, LeO (netcidr_IP_Mask.j1 k y0 y1) (netcidr_IP_Mask.j1 (k + 1) y0 y1)) ∧ (∀ y0 y1 y2, LeO (netcidr_IP_Mask.j2 k y0 y1 y2) (netcidr_IP_Mask.j2 (k + 1) y0 y1 y2)) ∧ (∀ y0 y1, LeO (netcidr_IP_Mask.j3 k y0 y1) (netcidr_IP_Mask.j3 (k + 1) y0 y1)) ∧ (∀ y0 y1 y2 y3 y4, LeO (netcidr_IP_Mask.l0 k y0 y1 y2 y3 y4) (netcidr_IP_Mask.l0 (k + 1) y0 y1 y2 y3 y4))
  | 0 => ⟨fun _ _ _ r h => by simp [netcidr_IP_Mask.j0] at h, fun _ _ r h => by simp [netcidr_IP_Mask.j1] at h, fun _ _ _ r h => by simp [netcidr_IP_Mask.j2] at h, fun _ _ r h => by simp [netcidr_IP_Mask.j3] at h, fun _ _ _ _ _ r h => by simp [netcidr_IP_Mask.l0] at h⟩
  | k + 1 => by
    obtain ⟨ih0, ih1, ih2, ih3, ih4⟩ := netcidr_IP_Mask.mono_l k
    refine ⟨?_, ?_, ?_, ?_, ?_⟩
    · intro y0 y1 y2
      unfold netcidr_IP_Mask.j0
      repeat' first
      | (with_reducible exact ih0 _ _ _)
      | (with_reducible exact ih1 _ _)
      | (with_reducible exact ih2 _ _ _)
      | (with_reducible exact ih3 _ _)
      | (with_reducible exact ih4 _ _ _ _ _)
      | (with_reducible exact netcidr_allFF.mono _ _)
      | (with_reducible exact LeO.refl _)
      | (with_reducible exact LeO.none _)
      | (with_reducible refine LeO.ite ?_ ?_)
      | (with_reducible refine LeO.bind ?_ (fun _ => ?_))
      | exact ih0 _ _ _
      | exact ih1 _ _
      | exact ih2 _ _ _
      | exact ih3 _ _
      | exact ih4 _ _ _ _ _
      | exact netcidr_allFF.mono _ _
      | exact LeO.none _
      | refine LeO.ite ?_ ?_
      | refine LeO.bind ?_ (fun _ => ?_)
    · intro y0 y1
      unfold netcidr_IP_Mask.j1
      repeat' first
      | (with_reducible exact ih0 _ _ _)
      | (with_reducible exact ih1 _ _)
      | (with_reducible exact ih2 _ _ _)
      | (with_reducible exact ih3 _ _)
      | (with_reducible exact ih4 _ _ _ _ _)
      | (with_reducible exact netcidr_allFF.mono _ _)
      | (with_reducible exact LeO.refl _)
      | (with_reducible exact LeO.none _)
      | (with_reducible refine LeO.ite ?_ ?_)
      | (with_reducible refine LeO.bind ?_ (fun _ => ?_))
      | exact ih0 _ _ _
      | exact ih1 _ _
      | exact ih2 _ _ _
      | exact ih3 _ _
      | exact ih4 _ _ _ _ _
      | exact netcidr_allFF.mono _ _
      | exact LeO.none _
      | refine LeO.ite ?_ ?_
      | refine LeO.bind ?_ (fun _ => ?_)
    · intro y0 y1 y2
      unfold netcidr_IP_Mask.j2
      repeat' first
      | (with_reducible exact ih0 _ _ _)
      | (with_reducible exact ih1 _ _)
      | (with_reducible exact ih2 _ _ _)
      | (with_reducible exact ih3 _ _)
      | (with_reducible exact ih4 _ _ _ _ _)
      | (with_reducible exact netcidr_allFF.mono _ _)
      | (with_reducible exact LeO.refl _)
      | (with_reducible exact LeO.none _)
      | (with_reducible refine LeO.ite ?_ ?_)
      | (with_reducible refine LeO.bind ?_ (fun _ => ?_))
      | exact ih0 _ _ _
      | exact ih1 _ _
      | exact ih2 _ _ _
      | exact ih3 _ _
      | exact ih4 _ _ _ _ _
      | exact netcidr_allFF.mono _ _
      | exact LeO.none _
      | refine LeO.ite ?_ ?_
      | refine LeO.bind ?_ (fun _ => ?_)
    · intro y0 y1
      unfold netcidr_IP_Mask.j3
      repeat' first
      | (with_reducible exact ih0 _ _ _)
      | (with_reducible exact ih1 _ _)
      | (with_reducible exact ih2 _ _ _)
      | (with_reducible exact ih3 _ _)
      | (with_reducible exact ih4 _ _ _ _ _)
      | (with_reducible exact netcidr_allFF.mono _ _)
      | (with_reducible exact LeO.refl _)
      | (with_reducible exact LeO.none _)
      | (with_reducible refine LeO.ite ?_ ?_)
      | (with_reducible refine LeO.bind ?_ (fun _ => ?_))
      | exact ih0 _ _ _
      | exact ih1 _ _
      | exact ih2 _ _ _
      | exact ih3 _ _
      | exact ih4 _ _ _ _ _
      | exact netcidr_allFF.mono _ _
      | exact LeO.none _
      | refine LeO.ite ?_ ?_
      | refine LeO.bind ?_ (fun _ => ?_)
    · intro y0 y1 y2 y3 y4
      unfold netcidr_IP_Mask.l0
      repeat' first
      | (with_reducible exact ih0 _ _ _)
      | (with_reducible exact ih1 _ _)
      | (with_reducible exact ih2 _ _ _)
      | (with_reducible exact ih3 _ _)
      | (with_reducible exact ih4 _ _ _ _ _)
      | (with_reducible exact netcidr_allFF.mono _ _)
      | (with_reducible exact LeO.refl _)
      | (with_reducible exact LeO.none _)
      | (with_reducible refine LeO.ite ?_ ?_)
      | (with_reducible refine LeO.bind ?_ (fun _ => ?_))
      | exact ih0 _ _ _
      | exact ih1 _ _
      | exact ih2 _ _ _
      | exact ih3 _ _
      | exact ih4 _ _ _ _ _
      | exact netcidr_allFF.mono _ _
      | exact LeO.none _
      | refine LeO.ite ?_ ?_
      | refine LeO.bind ?_ (fun _ => ?_)
theorem netcidr_IP_Mask.mono : ∀ a0 a1 k, LeO (netcidr_IP_Mask.f k a0 a1) (netcidr_IP_Mask.f (k + 1) a0 a1) := by
  intro a0 a1 k
  obtain ⟨ih0, ih1, ih2, ih3, ih4⟩ := netcidr_IP_Mask.mono_l k
  unfold netcidr_IP_Mask.f
  repeat' first
      | (with_reducible exact ih0 _ _ _)
      | (with_reducible exact ih1 _ _)
      | (with_reducible exact ih2 _ _ _)
      | (with_reducible exact ih3 _ _)
      | (with_reducible exact ih4 _ _ _ _ _)
      | (with_reducible exact netcidr_allFF.mono _ _)
      | (with_reducible exact LeO.refl _)
      | (with_reducible exact LeO.none _)
      | (with_reducible refine LeO.ite ?_ ?_)
      | (with_reducible refine LeO.bind ?_ (fun _ => ?_))
      | exact ih0 _ _ _
      | exact ih1 _ _
      | exact ih2 _ _ _
      | exact ih3 _ _
      | exact ih4 _ _ _ _ _
      | exact netcidr_allFF.mono _ _
      | exact LeO.none _
      | refine LeO.ite ?_ ?_
      | refine LeO.bind ?_ (fun _ => ?_)
def netcidr_IP_Mask.T3 : Bool × List (List Nat × List Nat) := (true, [([], []), ([0], [0]), ([1], [1]), ([2], [2]), ([3], [3]), ([4, 3], [3, 4]), ([5, 3], [3, 5]), ([3, 6], [3, 6]), ([7, 3], [7]), ([8], [8]), ([9, 8], [8, 9]), ([8, 8], [8]), ([10, 11, 11, 8], [8, 10, 11]), ([8, 12], [8, 12])])
def netcidr_IP_Mask.B3 : List Nat := [0, 1, 3, 7, 15, 31, 63, 127, 255, 511, 1023, 511, 4095, 8191]
theorem netcidr_IP_Mask.tab3 : rtab .any (opsOf Tryz.f78 3) = netcidr_IP_Mask.T3 := by kernel_rfl
theorem netcidr_IP_Mask.bits3 : waitsOk netcidr_IP_Mask.T3.2 netcidr_IP_Mask.B3 = true := by kernel_rfl
def netcidr_IP_Mask.T12 : Bool × List (List Nat × List Nat) := (true, [([], []), ([], []), ([], []), ([], []), ([2, 3], [2, 3]), ([4], [4]), ([], []), ([], []), ([6, 7], [6, 7]), ([8], [8]), ([5, 9], [5, 9]), ([0, 1, 0, 1, 2, 3, 4, 5, 6, 7, 8, 9, 10], [0, 1]), ([11, 10, 0, 1, 2, 3, 4, 5, 6, 7, 8, 9, 10], [10, 11])])
def netcidr_IP_Mask.B12 : List Nat := [0, 0, 0, 0, 12, 28, 0, 0, 192, 448, 1020, 2047, 4095]
theorem netcidr_IP_Mask.tab12 : rtab .any (opsOf Tryz.f78 12) = netcidr_IP_Mask.T12 := by kernel_rfl
theorem netcidr_IP_Mask.bits12 : waitsOk netcidr_IP_Mask.T12.2 netcidr_IP_Mask.B12 = true := by kernel_rfl
set_option maxHeartbeats 8000000 in
set_option maxRecDepth 100000 in
theorem netcidr_IP_Mask.calls (k : Nat) (P0_ : Nat → Prop) (A0 : Option Addr) (c0 : Nat) (l0 : List Int) (P1_ : Nat → Prop) (A1 : Option Addr) (c1 : Nat) (l1 : List Int) (r : List Int) (w : World) (hs0 : Kd.V (Kd.int .u8) 5 w w.heap.size (fun k_ => P0_ k_) (.slice A0 l0.length c0) l0) (hs1 : Kd.V (Kd.int .u8) 5 w w.heap.size (fun k_ => P1_ k_) (.slice A1 l1.length c1) l1) (h : netcidr_IP_Mask.f k l0 l1 = some r) :
    Calls Tryz.prog 78 #[.slice A0 l0.length c0, .slice A1 l1.length c1] w fun e w' => ∃ v0_ : Value, e = .returned (v0_) ∧ Kd.R (Kd.int .u8) 5 w' w.heap.size (fun k_ => (w.heap.size ≤ k_)) v0_ r ∧ Below w.heap.size w w' := by
  have HO0 := Aside0.mk (show Kd.V (Kd.int .u8) 5 w w.heap.size (fun k_ => ((P0_ k_ ∨ P1_ k_) ∨ w.heap.size ≤ k_)) (.slice A0 l0.length c0) l0 from Kd.V_mono hs0 (fun k_ hk => .inl (.inl hk)))
  have HO1 := Aside0.mk (show Kd.V (Kd.int .u8) 5 w w.heap.size (fun k_ => ((P0_ k_ ∨ P1_ k_) ∨ w.heap.size ≤ k_)) (.slice A1 l1.length c1) l1 from Kd.V_mono hs1 (fun k_ hk => .inl (.inr hk)))
  have HB := Aside0.mk (Below.refl w.heap.size w)
  have H : (if (l1.length : Int) = 16 then (if (l0.length : Int) = 4 then (if 12 ≤ (l1.length : Int) then ((netcidr_allFF.f k (l1.take 12)).bind fun t209 => (netcidr_IP_Mask.j0 k l0 l1 t209)) else (none)) else (netcidr_IP_Mask.j0 k l0 l1 false)) else (netcidr_IP_Mask.j0 k l0 l1 false)) = some r := h
  clear h
  have HC3 := Aside0.mk H
  clear H
  go_enter Tryz.func78, Tryz.ntmps78
  go_upto_region 1 with (fail)
  go_cut [20] (fun v20 wc => ∃ (kq : Nat) (x20_2 : Bool), v20 = .bool x20_2 ∧ Aside0 (netcidr_IP_Mask.j0 kq l0 l1 x20_2 = some r) ∧ Aside0 (kq ≤ k) ∧ Aside0 (Kd.V (Kd.int .u8) 5 wc w.heap.size (fun k_ => ((P0_ k_ ∨ P1_ k_) ∨ w.heap.size ≤ k_)) (.slice A0 l0.length c0) l0) ∧ Aside0 (Kd.V (Kd.int .u8) 5 wc w.heap.size (fun k_ => ((P0_ k_ ∨ P1_ k_) ∨ w.heap.size ≤ k_)) (.slice A1 l1.length c1) l1) ∧ Aside0 (Below w.heap.size w wc))
  case first =>
    have H := HC3.out
    clear HC3
    by_cases c4 : (l1.length : Int) = 16
    · rw [if_pos c4] at H
      have c4b0 : ((l1.length : Int) == 16) = true := beq_iff_eq.mpr c4
      have c4b1 : ((l1.length : Int) != 16) = false := bne_eq_false_iff_eq.mpr c4
      clear c4
      (first | rw [c4b0] | (simp only [i64_w, i32_w]; rw [c4b0]) | skip)
      by_cases c5 : (l0.length : Int) = 4
      · rw [if_pos c5] at H
        have c5b0 : ((l0.length : Int) == 4) = true := beq_iff_eq.mpr c5
        have c5b1 : ((l0.length : Int) != 4) = false := bne_eq_false_iff_eq.mpr c5
        clear c5
        by_cases c6 : 12 ≤ (l1.length : Int)
        · rw [if_pos c6] at H
          have c6b0 := eq_true c6
          have c6b1 : decide (12 ≤ (l1.length : Int)) = true := decide_eq_true c6
          clear c6
          obtain ⟨y204, hy204⟩ : ∃ y_ : List Int, y_ = (l1.take 12) := ⟨_, rfl⟩
          replace H : ((netcidr_allFF.f k y204).bind fun t209 => (netcidr_IP_Mask.j0 k l0 l1 t209)) = some r := by first | (rw [hy204]; with_reducible exact H) | (have H2_ := (Option.bind_some _ _).symm.trans H; rw [hy204]; with_reducible exact H2_) | (have H2_ := (Option.bind_some _ _).symm.trans H; with_reducible exact H2_) | with_reducible exact H | (rw [hy204]; exact H) | exact H
          have Ny204 := Aside0.mk hy204
          clear hy204
          replace H := Option.bind_eq_some_iff.mp H
          obtain ⟨t209, A70, H⟩ := H
          replace H : (netcidr_IP_Mask.j0 k l0 l1 t209) = some r := H
          have A7 := Aside0.mk A70
          clear A70
          have H' := Aside0.mk H
          clear H
          have q8 : (12 : Int) ≤ ((l1.length : Int) : Int) := of_decide_eq_true (by first | (with_reducible assumption) | assumption)
          obtain ⟨i08, hi08, _, hsz8, _⟩ := info_parts info5
          have hroom8 : l1.length ≤ c1 := (Kd.V_reads' HO1.out).2.1
          have hC8 : Kd.F (Kd.int .u8) _ _ A1 l1.length l1 := (Kd.V_at (base := w.heap.size) HO1.out).2.2
          have hcut8 := cut_to (P := Tryz.prog) 132 5 .i64 Tryz.underlying132 hi08 A1 l1.length c1 12 (by omega) q8 hroom8
          have hr8 := Kd.F_take (m := 12) hC8 (by omega)
          have hy8 : y204.length = (12 : Int).toNat := (by rw [Ny204.out, List.length_take]; omega)
          rw [← Ny204.out] at hr8
          rw [← hy8] at hcut8
          have HO208 := Aside0.mk (show Kd.V (Kd.int .u8) 5 _ w.heap.size _ (.slice A1 y204.length c1) y204 from Kd.V_mk (by omega) hr8)
          have HC208 := Aside0.mk (show y204.length ≤ c1 from by omega)
          clear hr8 hC8 hroom8 hi08 hsz8
          have KY8 := Aside0.mk hy8
          clear hy8
          replace q8 := eq_true q8
          go_wp2_with (first | (go_at_call 108; (with_reducible refine (netcidr_allFF.calls k _ _ y204 t209 _ ?side1 ?side2 A7.out).mono ?_); (case side1 => repeat (first | exact (Kd.V_reads' HO208.out).2.2 | (with_reducible refine Kd.C_alloc ?_ _) | (with_reducible refine Kd.C_drewN ?_ _) | (with_reducible refine Kd.C_drew ?_))); (case side2 => exact (Kd.V_reads' HO208.out).2.1); rintro e w' ⟨rfl, ⟨nd, rfl⟩⟩))
          go_meet
          case rel => exact ⟨_, (t209), (by first | rfl | (simp; done) | (simp [*]; done)), H', ⟨by first | omega | exact Nat.le_refl _⟩, ⟨by (with_reducible repeat (first | apply Kd.V_alloc | apply Kd.V_drewN | apply Kd.V_drew)); exact HO0.out⟩, ⟨by (with_reducible repeat (first | apply Kd.V_alloc | apply Kd.V_drewN | apply Kd.V_drew)); exact HO1.out⟩, ⟨by repeat (first | (with_reducible first | exact HB.out | apply below_alloc | apply pw_below_drewN | apply below_drew1) | exact HB.out)⟩⟩
        · rw [if_neg c6] at H
          exact absurd H (by simp)
      · rw [if_neg c5] at H
        have c5b0 : ((l0.length : Int) == 4) = false := beq_eq_false_iff_ne.mpr c5
        have c5b1 : ((l0.length : Int) != 4) = true := bne_iff_ne.mpr c5
        have H' := Aside0.mk H
        clear H
        go_wp2
        go_meet
        case rel => exact ⟨_, (false), (by first | rfl | (simp; done) | (simp [*]; done)), H', ⟨by first | omega | exact Nat.le_refl _⟩, ⟨by (with_reducible repeat (first | apply Kd.V_alloc | apply Kd.V_drewN | apply Kd.V_drew)); exact HO0.out⟩, ⟨by (with_reducible repeat (first | apply Kd.V_alloc | apply Kd.V_drewN | apply Kd.V_drew)); exact HO1.out⟩, ⟨by repeat (first | (with_reducible first | exact HB.out | apply below_alloc | apply pw_below_drewN | apply below_drew1) | exact HB.out)⟩⟩
    · rw [if_neg c4] at H
      have c4b0 : ((l1.length : Int) == 16) = false := beq_eq_false_iff_ne.mpr c4
      have c4b1 : ((l1.length : Int) != 16) = true := bne_iff_ne.mpr c4
      (first | rw [c4b0] | (simp only [i64_w, i32_w]; rw [c4b0]) | skip)
      have H' := Aside0.mk H
      clear H
      go_wp2
      go_meet
      case rel => exact ⟨_, (false), (by first | rfl | (simp; done) | (simp [*]; done)), H', ⟨by first | omega | exact Nat.le_refl _⟩, ⟨by (with_reducible repeat (first | apply Kd.V_alloc | apply Kd.V_drewN | apply Kd.V_drew)); exact HO0.out⟩, ⟨by (with_reducible repeat (first | apply Kd.V_alloc | apply Kd.V_drewN | apply Kd.V_drew)); exact HO1.out⟩, ⟨by repeat (first | (with_reducible first | exact HB.out | apply below_alloc | apply pw_below_drewN | apply below_drew1) | exact HB.out)⟩⟩
  case rest =>
    clear HC3
    try clear c1
    try clear p2
    try clear c4
    try clear c4b0
    try clear c4b1
    try clear c5
    try clear c5b0
    try clear c5b1
    try clear c6
    try clear c6b0
    try clear c6b1
    try clear c7
    try clear q8
    try clear q8
    obtain ⟨kq, x20_2, rfl, HA, HJ2, HO_0, HO_1, HB⟩ := hcut
    cases kq with
    | zero => exact absurd HA.out (by simp [netcidr_IP_Mask.j0])
    | succ kj2 =>
      have H := HA.out
      clear HA
      simp only [netcidr_IP_Mask.j0] at H
      have HC9 := Aside0.mk H
      clear H
      go_upto_if 20 with (fail)
      go_cut [1] (fun v1 wc => ∃ (kq : Nat) (x1_8 : List Int), Aside0 (netcidr_IP_Mask.j1 kq l0 x1_8 = some r) ∧ Aside0 (kq ≤ kj2) ∧ Aside0 (Kd.V (Kd.int .u8) 5 wc w.heap.size (fun k_ => ((P0_ k_ ∨ P1_ k_) ∨ w.heap.size ≤ k_)) (.slice A0 l0.length c0) l0) ∧ Aside0 (Kd.V (Kd.int .u8) 5 wc w.heap.size (fun k_ => ((P0_ k_ ∨ P1_ k_) ∨ w.heap.size ≤ k_)) v1 x1_8) ∧ Aside0 (Below w.heap.size w wc))
      case first =>
        have H := HC9.out
        clear HC9
        by_cases c10 : x20_2 = true
        · subst c10
          have H1 : (if 12 ≤ (l1.length : Int) then (netcidr_IP_Mask.j1 kj2 l0 (l1.drop 12)) else (none)) = some r := by rw [if_pos rfl] at H; exact H
          clear H
          have H := H1
          clear H1
          by_cases c11 : 12 ≤ (l1.length : Int)
          · rw [if_pos c11] at H
            have c11b0 := eq_true c11
            have c11b1 : decide (12 ≤ (l1.length : Int)) = true := decide_eq_true c11
            clear c11
            obtain ⟨y210, hy210⟩ : ∃ y_ : List Int, y_ = (l1.drop 12) := ⟨_, rfl⟩
            replace H : (netcidr_IP_Mask.j1 kj2 l0 y210) = some r := by first | (rw [hy210]; with_reducible exact H) | (have H2_ := (Option.bind_some _ _).symm.trans H; rw [hy210]; with_reducible exact H2_) | (have H2_ := (Option.bind_some _ _).symm.trans H; with_reducible exact H2_) | with_reducible exact H | (rw [hy210]; exact H) | exact H
            have Ny210 := Aside0.mk hy210
            clear hy210
            have H' := Aside0.mk H
            clear H
            have q12 : (12 : Int) ≤ ((l1.length : Int) : Int) := of_decide_eq_true (by first | (with_reducible assumption) | assumption)
            obtain ⟨i012, hi012, _, hsz12, _⟩ := info_parts info5
            have hroom12 : l1.length ≤ c1 := (Kd.V_reads' HO_1.out).2.1
            have hC12 : Kd.F (Kd.int .u8) _ _ A1 l1.length l1 := (Kd.V_at (base := w.heap.size) HO_1.out).2.2
            have hcut12 := cut_from (P := Tryz.prog) 132 5 .i64 Tryz.underlying132 hi012 1 hsz12 A1 l1.length c1 12 (by omega) q12
            have hr12 := Kd.F_cut (m := (12 : Int).toNat) (c := c1) hC12 (by omega) hroom12
            obtain ⟨A12, hA12⟩ : ∃ zz_, zz_ = (if c1 = (12 : Int).toNat then A1 else (A1 : Option Addr).map (·.add ((12 : Int).toNat * 1))) := ⟨_, rfl⟩
            obtain ⟨c12, hc12⟩ : ∃ zz_, zz_ = c1 - (12 : Int).toNat := ⟨_, rfl⟩
            have hy12 : y210.length = l1.length - (12 : Int).toNat := (by rw [Ny210.out, List.length_drop] <;> omega)
            rw [show (l1).drop (12 : Int).toNat = y210 from Ny210.out.symm] at hr12
            replace hr12 : Kd.F (Kd.int .u8) _ _ A12 y210.length y210 := (by rw [hA12]; exact hr12)
            rw [← hy12, ← hA12, ← hc12] at hcut12
            have HO214 := Aside0.mk (show Kd.V (Kd.int .u8) 5 _ w.heap.size _ (.slice A12 y210.length c12) y210 from Kd.V_mk (by rw [hy12, hc12]; exact Nat.sub_le_sub_right hroom12 _) hr12)
            have HC214 := Aside0.mk (show y210.length ≤ c12 from by rw [hy12, hc12]; exact Nat.sub_le_sub_right hroom12 _)
            clear hr12 hC12 hroom12 hi012 hsz12 hc12
            have KY12 := Aside0.mk hy12
            have KA12 := Aside0.mk hA12
            clear hy12 hA12
            replace q12 := eq_true q12
            go_wp2
            go_meet
            case rel => exact ⟨_, (y210), H', ⟨by have := HJ2.out; first | omega | exact Nat.le_refl _⟩, ⟨by (with_reducible repeat (first | apply Kd.V_alloc | apply Kd.V_drewN | apply Kd.V_drew)); exact HO_0.out⟩, ⟨by (with_reducible repeat (first | apply Kd.V_alloc | apply Kd.V_drewN | apply Kd.V_drew)); exact HO214.out⟩, ⟨by repeat (first | (with_reducible first | exact HB.out | apply below_alloc | apply pw_below_drewN | apply below_drew1) | exact HB.out)⟩⟩
          · rw [if_neg c11] at H
            exact absurd H (by simp)
        · replace c10 := Bool.eq_false_iff.mpr c10
          subst c10
          have H1 : (netcidr_IP_Mask.j1 kj2 l0 l1) = some r := by rw [if_neg (show ¬ (false = true) by decide)] at H; exact H
          clear H
          have H := H1
          clear H1
          have H' := Aside0.mk H
          clear H
          go_wp2
          go_meet
          case rel => exact ⟨_, (l1), H', ⟨by have := HJ2.out; first | omega | exact Nat.le_refl _⟩, ⟨by (with_reducible repeat (first | apply Kd.V_alloc | apply Kd.V_drewN | apply Kd.V_drew)); exact HO_0.out⟩, ⟨by (with_reducible repeat (first | apply Kd.V_alloc | apply Kd.V_drewN | apply Kd.V_drew)); exact HO_1.out⟩, ⟨by repeat (first | (with_reducible first | exact HB.out | apply below_alloc | apply pw_below_drewN | apply below_drew1) | exact HB.out)⟩⟩
      case rest =>
        clear HC9
        try clear c1
        try clear q1
        try clear p2
        try clear c4
        try clear c4b0
        try clear c4b1
        try clear c5
        try clear c5b0
        try clear c5b1
        try clear c6
        try clear c6b0
        try clear c6b1
        try clear c7
        try clear q8
        try clear c10
        try clear c11
        try clear c11b0
        try clear c11b1
        try clear c12
        try clear q12
        try clear p2
        try clear q12
        try clear q8
        obtain ⟨kq, x1_8, HA, HJ8, HO_0, HO_1, HB⟩ := hcut
        cases kq with
        | zero => exact absurd HA.out (by simp [netcidr_IP_Mask.j1])
        | succ kj8 =>
          have H := HA.out
          clear HA
          simp only [netcidr_IP_Mask.j1] at H
          have HC13 := Aside0.mk H
          clear H
          go_upto_region 3 with (fail)
          go_cut [36] (fun v36 wc => ∃ (kq : Nat) (x36_12 : Bool), v36 = .bool x36_12 ∧ Aside0 (netcidr_IP_Mask.j2 kq l0 x1_8 x36_12 = some r) ∧ Aside0 (kq ≤ kj8) ∧ Aside0 (Kd.V (Kd.int .u8) 5 wc w.heap.size (fun k_ => ((P0_ k_ ∨ P1_ k_) ∨ w.heap.size ≤ k_)) (.slice A0 l0.length c0) l0) ∧ Aside0 (Kd.V (Kd.int .u8) 5 wc w.heap.size (fun k_ => ((P0_ k_ ∨ P1_ k_) ∨ w.heap.size ≤ k_)) u1 x1_8) ∧ Aside0 (Below w.heap.size w wc))
          case first =>
            have H := HC13.out
            clear HC13
            by_cases c14 : (x1_8.length : Int) = 4
            · rw [if_pos c14] at H
              have c14b0 : ((x1_8.length : Int) == 4) = true := beq_iff_eq.mpr c14
              have c14b1 : ((x1_8.length : Int) != 4) = false := bne_eq_false_iff_eq.mpr c14
              clear c14
              (first | rw [c14b0] | (simp only [i64_w, i32_w]; rw [c14b0]) | skip)
              by_cases c15 : (l0.length : Int) = 16
              · rw [if_pos c15] at H
                have c15b0 : ((l0.length : Int) == 16) = true := beq_iff_eq.mpr c15
                have c15b1 : ((l0.length : Int) != 16) = false := bne_eq_false_iff_eq.mpr c15
                clear c15
                by_cases c16 : 12 ≤ (l0.length : Int)
                · rw [if_pos c16] at H
                  have c16b0 := eq_true c16
                  have c16b1 : decide (12 ≤ (l0.length : Int)) = true := decide_eq_true c16
                  clear c16
                  obtain ⟨y215, hy215⟩ : ∃ y_ : List Int, y_ = (l0.take 12) := ⟨_, rfl⟩
                  replace H : ((netcidr_v4InV6Prefix.f).bind fun t220 => ((bytes_Equal.f y215 t220).bind fun t223 => (netcidr_IP_Mask.j2 kj8 l0 x1_8 t223))) = some r := by first | (rw [hy215]; with_reducible exact H) | (have H2_ := (Option.bind_some _ _).symm.trans H; rw [hy215]; with_reducible exact H2_) | (have H2_ := (Option.bind_some _ _).symm.trans H; with_reducible exact H2_) | with_reducible exact H | (rw [hy215]; exact H) | exact H
                  have Ny215 := Aside0.mk hy215
                  clear hy215
                  replace H := Option.bind_eq_some_iff.mp H
                  obtain ⟨t220, A170, H⟩ := H
                  replace H : ((bytes_Equal.f y215 t220).bind fun t223 => (netcidr_IP_Mask.j2 kj8 l0 x1_8 t223)) = some r := H
                  have A17 := Aside0.mk A170
                  clear A170
                  replace H := Option.bind_eq_some_iff.mp H
                  obtain ⟨t223, A180, H⟩ := H
                  replace H : (netcidr_IP_Mask.j2 kj8 l0 x1_8 t223) = some r := H
                  have A18 := Aside0.mk A180
                  clear A180
                  have H' := Aside0.mk H
                  clear H
                  try go_wp2
                  have n0_ := Aside0.mk (Kd.V_drew HO_0.out)
                  have n1_ := Aside0.mk (Kd.V_drew HO_1.out)
                  have n2_ := Aside0.mk (below_drew1 HB.out)
                  clear HO_0
                  clear HO_1
                  clear HB
                  have HO_0 := n0_
                  have HO_1 := n1_
                  have HB := n2_
                  clear n0_ n1_ n2_
                  obtain ⟨Ao20, co20, eo20⟩ := Kd.V_slice HO_1.out
                  (first | subst eo20 | (injection eo20 with f1_ f2_ f3_; have f4_ := f1_.symm; have f5_ := f3_.symm; clear f1_ f2_ f3_; subst f4_; subst f5_))
                  have q21 : (12 : Int) ≤ ((l0.length : Int) : Int) := of_decide_eq_true (by first | (with_reducible assumption) | assumption)
                  obtain ⟨i021, hi021, _, hsz21, _⟩ := info_parts info5
                  have hroom21 : l0.length ≤ c0 := (Kd.V_reads' HO_0.out).2.1
                  have hC21 : Kd.F (Kd.int .u8) _ _ A0 l0.length l0 := (Kd.V_at (base := w.heap.size) HO_0.out).2.2
                  have hcut21 := cut_to (P := Tryz.prog) 80 5 .i64 Tryz.underlying80 hi021 A0 l0.length c0 12 (by omega) q21 hroom21
                  have hr21 := Kd.F_take (m := 12) hC21 (by omega)
                  have hy21 : y215.length = (12 : Int).toNat := (by rw [Ny215.out, List.length_take]; omega)
                  rw [← Ny215.out] at hr21
                  rw [← hy21] at hcut21
                  have HO219 := Aside0.mk (show Kd.V (Kd.int .u8) 5 _ w.heap.size _ (.slice A0 y215.length c0) y215 from Kd.V_mk (by omega) hr21)
                  have HC219 := Aside0.mk (show y215.length ≤ c0 from by omega)
                  clear hr21 hC21 hroom21 hi021 hsz21
                  have KY21 := Aside0.mk hy21
                  clear hy21
                  replace q21 := eq_true q21
                  refine start_ (n := 14) (S := fun w' => True) (ds := []) #[false, false, false, false, false, false, false, false, false, false, false, false, false, false] (by kernel_rfl) rfl rfl trivial (fun hHeld => ?_); refine with_tabW netcidr_IP_Mask.tab3 netcidr_IP_Mask.bits3 (fun HT_ HW_ => ?_)
                  generalize wc.drew = w19 at HO_0 HO_1 HB HO219 hHeld ⊢
                  refine pure_ (i := 0) (N := some 23) (v := ?_) (a' := ?_) #[true, false, false, false, false, false, false, false, false, false, false, false, false, false] rfl rfl (any_of HT_.out (by kernel_rfl)) (fun _ _ _ h => h) (Or.inl ⟨by rfl, ?_⟩) ?_ ?_
                  rotate_left
                  · intro w'
                    go_simp
                    with_reducible rfl
                  rotate_left
                  · simp only [Act.put, List.setIfInBounds_toArray, List.set_cons_zero, List.set_cons_succ, i64_w, i32_w]
                    rfl
                  refine pure_ (i := 1) (N := some 24) (v := ?_) (a' := ?_) #[true, true, false, false, false, false, false, false, false, false, false, false, false, false] rfl rfl (any_of HT_.out (by kernel_rfl)) (fun _ _ _ h => h) (Or.inl ⟨by rfl, ?_⟩) ?_ ?_
                  rotate_left
                  · intro w'
                    go_simp
                    with_reducible rfl
                  rotate_left
                  · simp only [Act.put, List.setIfInBounds_toArray, List.set_cons_zero, List.set_cons_succ, i64_w, i32_w]
                    rfl
                  refine pure_ (i := 2) (N := some 25) (v := ?_) (a' := ?_) #[true, true, true, false, false, false, false, false, false, false, false, false, false, false] rfl rfl (any_of HT_.out (by kernel_rfl)) (fun _ _ _ h => h) (Or.inl ⟨by rfl, ?_⟩) ?_ ?_
                  rotate_left
                  · intro w'
                    go_simp
                    with_reducible rfl
                  rotate_left
                  · simp only [Act.put, List.setIfInBounds_toArray, List.set_cons_zero, List.set_cons_succ, i64_w, i32_w]
                    rfl
                  refine pure_ (i := 3) (N := some 26) (v := ?_) (a' := ?_) #[true, true, true, true, false, false, false, false, false, false, false, false, false, false] rfl rfl (any_of HT_.out (by kernel_rfl)) (fun _ _ _ h => h) (Or.inl ⟨by rfl, ?_⟩) ?_ ?_
                  rotate_left
                  · intro w'
                    go_simp
                    with_reducible rfl
                  rotate_left
                  · simp only [Act.put, List.setIfInBounds_toArray, List.set_cons_zero, List.set_cons_succ, i64_w, i32_w]
                    rfl
                  refine pure_ (i := 4) (N := some 27) (v := ?_) (a' := ?_) #[true, true, true, true, true, false, false, false, false, false, false, false, false, false] rfl rfl (any_of HT_.out (by kernel_rfl)) (fun _ _ _ h => h) (Or.inl ⟨by rfl, ?_⟩) ?_ ?_
                  rotate_left
                  · intro w'
                    go_simp
                    with_reducible rfl
                  rotate_left
                  · simp only [Act.put, List.setIfInBounds_toArray, List.set_cons_zero, List.set_cons_succ, i64_w, i32_w]
                    rfl
                  refine pure_ (i := 5) (N := some 28) (v := ?_) (a' := ?_) #[true, true, true, true, true, true, false, false, false, false, false, false, false, false] rfl rfl (any_of HT_.out (by kernel_rfl)) (fun _ _ _ h => h) (Or.inl ⟨by rfl, ?_⟩) ?_ ?_
                  rotate_left
                  · intro w'
                    go_simp
                    with_reducible rfl
                  rotate_left
                  · simp only [Act.put, List.setIfInBounds_toArray, List.set_cons_zero, List.set_cons_succ, i64_w, i32_w]
                    rfl
                  refine pure_ (i := 6) (N := some 29) (v := ?_) (a' := ?_) #[true, true, true, true, true, true, true, false, false, false, false, false, false, false] rfl rfl (any_of HT_.out (by kernel_rfl)) (fun _ _ _ h => h) (Or.inl ⟨by rfl, ?_⟩) ?_ ?_
                  rotate_left
                  · intro w'
                    go_simp
                    with_reducible rfl
                  rotate_left
                  · simp only [Act.put, List.setIfInBounds_toArray, List.set_cons_zero, List.set_cons_succ, i64_w, i32_w]
                    rfl
                  refine pure_ (i := 7) (N := some 30) (v := ?_) (a' := ?_) #[true, true, true, true, true, true, true, true, false, false, false, false, false, false] rfl rfl (any_of HT_.out (by kernel_rfl)) (fun _ _ _ h => h) (Or.inl ⟨by rfl, ?_⟩) ?_ ?_
                  rotate_left
                  · intro w'
                    go_simp
                    with_reducible rfl
                  rotate_left
                  · simp only [Act.put, List.setIfInBounds_toArray, List.set_cons_zero, List.set_cons_succ, i64_w, i32_w]
                    rfl
                  refine pure_ (i := 8) (N := some 31) (v := ?_) (a' := ?_) #[true, true, true, true, true, true, true, true, true, false, false, false, false, false] rfl rfl (any_of HT_.out (by kernel_rfl)) (fun _ _ _ h => h) (Or.inl ⟨by rfl, ?_⟩) ?_ ?_
                  rotate_left
                  · intro w'
                    go_simp
                    with_reducible rfl
                  rotate_left
                  · simp only [Act.put, List.setIfInBounds_toArray, List.set_cons_zero, List.set_cons_succ, i64_w, i32_w]
                    rfl
                  refine pure_ (i := 9) (N := some 32) (v := ?_) (a' := ?_) #[true, true, true, true, true, true, true, true, true, true, false, false, false, false] rfl rfl (any_of HT_.out (by kernel_rfl)) (fun _ _ _ h => h) (Or.inl ⟨by rfl, ?_⟩) ?_ ?_
                  rotate_left
                  · intro w'
                    go_simp
                    with_reducible rfl
                  rotate_left
                  · simp only [Act.put, List.setIfInBounds_toArray, List.set_cons_zero, List.set_cons_succ, i64_w, i32_w]
                    rfl
                  refine pure_ (i := 10) (N := some 33) (v := ?_) (a' := ?_) #[true, true, true, true, true, true, true, true, true, true, true, false, false, false] rfl rfl (any_of HT_.out (by kernel_rfl)) (fun _ _ _ h => h) (Or.inl ⟨by rfl, ?_⟩) ?_ ?_
                  rotate_left
                  · intro w'
                    go_simp
                    with_reducible rfl
                  rotate_left
                  · simp only [Act.put, List.setIfInBounds_toArray, List.set_cons_zero, List.set_cons_succ, i64_w, i32_w]
                    rfl
                  refine one_ (i := 11) (N := some 34) #[true, true, true, true, true, true, true, true, true, true, true, true, false, false] rfl rfl (one_of HT_.out (by kernel_rfl)) (by decide) (fun K hK => ?_)
                  refine goes_ Tryz.func110 (by kernel_rfl) rfl #[] (by rfl) rfl rfl (by (try simp only [List.map_toArray, List.map_cons, List.map_nil]); first | done | rfl | (simp only [List.length_drop, List.length_take]; rfl)) ?_
                  with_reducible refine (netcidr_v4InV6Prefix.calls  t220 _ A17.out).mono ?_
                  rintro e w22 ⟨v221, rfl, ho0, hb⟩
                  refine ⟨_, rfl, ?_⟩
                  have n0_ := Aside0.mk (Kd.V_elder' (by (with_reducible repeat (first | apply Kd.V_alloc | apply Kd.V_drewN | apply Kd.V_drew)); exact HO_0.out) (Kd.R_base ho0) hb)
                  have n1_ := Aside0.mk (Kd.V_elder' (by (with_reducible repeat (first | apply Kd.V_alloc | apply Kd.V_drewN | apply Kd.V_drew)); exact HO_1.out) (Kd.R_base ho0) hb)
                  have n2_ := Aside0.mk (Kd.V_elder' (by (with_reducible repeat (first | apply Kd.V_alloc | apply Kd.V_drewN | apply Kd.V_drew)); exact HO219.out) (Kd.R_base ho0) hb)
                  have n3_ := Aside0.mk (Kd.R_lower (Kd.R_newM (M := fun k_ => (w.heap.size ≤ k_)) ho0 (below_size (by repeat (first | (with_reducible first | exact HB.out | apply below_alloc | apply pw_below_drewN | apply below_drew1) | exact HB.out))) (fun k_ h_ => h_)) (below_size (by repeat (first | (with_reducible first | exact HB.out | apply below_alloc | apply pw_below_drewN | apply below_drew1) | exact HB.out))))
                  have n4_ := Aside0.mk (below_step (by repeat (first | (with_reducible first | exact HB.out | apply below_alloc | apply pw_below_drewN | apply below_drew1) | exact HB.out)) hb)
                  clear HO_0
                  clear HO_1
                  clear HO219
                  clear HB
                  have HO_0 := n0_
                  have HO_1 := n1_
                  have HO219 := n2_
                  have HO222 := n3_
                  have HB := n4_
                  clear n0_ n1_ n2_ n3_ n4_
                  (try clear hb)
                  (try clear hb2)
                  (try clear hk)
                  (try clear hi)
                  (try clear ho0)
                  obtain ⟨Ao23, co23, eo23⟩ := Kd.R_slice HO222.out
                  (first | subst eo23 | (injection eo23 with f1_ f2_ f3_; have f4_ := f1_.symm; have f5_ := f3_.symm; clear f1_ f2_ f3_; subst f4_; subst f5_))
                  refine hK.out _ _ trivial (fun hHeld => ?_)
                  clear hK K
                  refine norm_ (a' := ?_) ?_ ?_
                  rotate_left
                  · show Act.put _ (some 34) _ = _
                    simp only [Act.put, List.setIfInBounds_toArray, List.set_cons_zero, List.set_cons_succ, i64_w, i32_w]
                    rfl
                  refine one_ (i := 12) (N := some 35) #[true, true, true, true, true, true, true, true, true, true, true, true, true, false] rfl rfl (one_of HT_.out (by kernel_rfl)) (by decide) (fun K hK => ?_)
                  refine goes_ Tryz.func109 (by kernel_rfl) rfl #[.slice A0 y215.length c0, .slice Ao23 t220.length co23] (by rfl) rfl rfl (by (try simp only [List.map_toArray, List.map_cons, List.map_nil]); first | done | rfl | (simp only [List.length_drop, List.length_take]; rfl)) ?_
                  with_reducible refine (bytes_Equal.calls _ _ y215 _ _ t220 t223 _ ?side1 ?side2 ?side3 ?side4 A18.out).mono ?_
                  (case side1 => repeat (first | exact (Kd.V_reads' HO219.out).2.2 | (with_reducible refine Kd.C_alloc ?_ _) | (with_reducible refine Kd.C_drewN ?_ _) | (with_reducible refine Kd.C_drew ?_)))
                  (case side2 => exact (Kd.V_reads' HO219.out).2.1)
                  (case side3 => repeat (first | exact (Kd.R_reads' HO222.out).2.2 | (with_reducible refine Kd.C_alloc ?_ _) | (with_reducible refine Kd.C_drewN ?_ _) | (with_reducible refine Kd.C_drew ?_)))
                  (case side4 => exact (Kd.R_reads' HO222.out).2.1)
                  rintro e w' ⟨rfl, ⟨nd, rfl⟩⟩
                  refine ⟨_, rfl, ?_⟩
                  refine hK.out _ _ trivial (fun hHeld => ?_)
                  clear hK K
                  refine norm_ (a' := ?_) ?_ ?_
                  rotate_left
                  · show Act.put _ (some 35) _ = _
                    simp only [Act.put, List.setIfInBounds_toArray, List.set_cons_zero, List.set_cons_succ, i64_w, i32_w]
                    rfl
                  refine pure_ (i := 13) (N := some 36) (v := ?_) (a' := ?_) #[true, true, true, true, true, true, true, true, true, true, true, true, true, true] rfl rfl (any_of HT_.out (by kernel_rfl)) (fun _ _ _ h => h) (Or.inl ⟨by rfl, ?_⟩) ?_ ?_
                  rotate_left
                  · intro w'
                    go_simp
                    with_reducible rfl
                  rotate_left
                  · simp only [Act.put, List.setIfInBounds_toArray, List.set_cons_zero, List.set_cons_succ, i64_w, i32_w]
                    rfl
                  refine done_ (done_of HT_.out (by kernel_rfl)) ?_
                  try go_wp2
                  go_meet
                  case rel => exact ⟨_, (t223), (by first | rfl | (simp; done) | (simp [*]; done)), H', ⟨by have := HJ2.out; have := HJ8.out; first | omega | exact Nat.le_refl _⟩, ⟨by (with_reducible repeat (first | apply Kd.V_alloc | apply Kd.V_drewN | apply Kd.V_drew)); exact Kd.V_mono HO_0.out (fun _ hk => hk.1)⟩, ⟨by (with_reducible repeat (first | apply Kd.V_alloc | apply Kd.V_drewN | apply Kd.V_drew)); exact Kd.V_mono HO_1.out (fun _ hk => hk.1)⟩, ⟨by repeat (first | (with_reducible first | exact HB.out | apply below_alloc | apply pw_below_drewN | apply below_drew1) | exact HB.out)⟩⟩
                · rw [if_neg c16] at H
                  exact absurd H (by simp)
              · rw [if_neg c15] at H
                have c15b0 : ((l0.length : Int) == 16) = false := beq_eq_false_iff_ne.mpr c15
                have c15b1 : ((l0.length : Int) != 16) = true := bne_iff_ne.mpr c15
                have H' := Aside0.mk H
                clear H
                try go_wp2
                have n0_ := Aside0.mk (Kd.V_drew HO_0.out)
                have n1_ := Aside0.mk (Kd.V_drew HO_1.out)
                have n2_ := Aside0.mk (below_drew1 HB.out)
                clear HO_0
                clear HO_1
                clear HB
                have HO_0 := n0_
                have HO_1 := n1_
                have HB := n2_
                clear n0_ n1_ n2_
                obtain ⟨Ao25, co25, eo25⟩ := Kd.V_slice HO_1.out
                (first | subst eo25 | (injection eo25 with f1_ f2_ f3_; have f4_ := f1_.symm; have f5_ := f3_.symm; clear f1_ f2_ f3_; subst f4_; subst f5_))
                refine start_ (n := 14) (S := fun w' => True) (ds := []) #[false, false, false, false, false, false, false, false, false, false, false, false, false, false] (by kernel_rfl) rfl rfl trivial (fun hHeld => ?_); refine with_tabW netcidr_IP_Mask.tab3 netcidr_IP_Mask.bits3 (fun HT_ HW_ => ?_)
                generalize wc.drew = w24 at HO_0 HO_1 HB hHeld ⊢
                refine pure_ (i := 0) (N := some 23) (v := ?_) (a' := ?_) #[true, false, false, false, false, false, false, false, false, false, false, false, false, false] rfl rfl (any_of HT_.out (by kernel_rfl)) (fun _ _ _ h => h) (Or.inl ⟨by rfl, ?_⟩) ?_ ?_
                rotate_left
                · intro w'
                  go_simp
                  with_reducible rfl
                rotate_left
                · simp only [Act.put, List.setIfInBounds_toArray, List.set_cons_zero, List.set_cons_succ, i64_w, i32_w]
                  rfl
                refine pure_ (i := 1) (N := some 24) (v := ?_) (a' := ?_) #[true, true, false, false, false, false, false, false, false, false, false, false, false, false] rfl rfl (any_of HT_.out (by kernel_rfl)) (fun _ _ _ h => h) (Or.inl ⟨by rfl, ?_⟩) ?_ ?_
                rotate_left
                · intro w'
                  go_simp
                  with_reducible rfl
                rotate_left
                · simp only [Act.put, List.setIfInBounds_toArray, List.set_cons_zero, List.set_cons_succ, i64_w, i32_w]
                  rfl
                refine pure_ (i := 2) (N := some 25) (v := ?_) (a' := ?_) #[true, true, true, false, false, false, false, false, false, false, false, false, false, false] rfl rfl (any_of HT_.out (by kernel_rfl)) (fun _ _ _ h => h) (Or.inl ⟨by rfl, ?_⟩) ?_ ?_
                rotate_left
                · intro w'
                  go_simp
                  with_reducible rfl
                rotate_left
                · simp only [Act.put, List.setIfInBounds_toArray, List.set_cons_zero, List.set_cons_succ, i64_w, i32_w]
                  rfl
                refine pure_ (i := 3) (N := some 26) (v := ?_) (a' := ?_) #[true, true, true, true, false, false, false, false, false, false, false, false, false, false] rfl rfl (any_of HT_.out (by kernel_rfl)) (fun _ _ _ h => h) (Or.inl ⟨by rfl, ?_⟩) ?_ ?_
                rotate_left
                · intro w'
                  go_simp
                  with_reducible rfl
                rotate_left
                · simp only [Act.put, List.setIfInBounds_toArray, List.set_cons_zero, List.set_cons_succ, i64_w, i32_w]
                  rfl
                refine pure_ (i := 4) (N := some 27) (v := ?_) (a' := ?_) #[true, true, true, true, true, false, false, false, false, false, false, false, false, false] rfl rfl (any_of HT_.out (by kernel_rfl)) (fun _ _ _ h => h) (Or.inl ⟨by rfl, ?_⟩) ?_ ?_
                rotate_left
                · intro w'
                  go_simp
                  with_reducible rfl
                rotate_left
                · simp only [Act.put, List.setIfInBounds_toArray, List.set_cons_zero, List.set_cons_succ, i64_w, i32_w]
                  rfl
                refine pure_ (i := 5) (N := some 28) (v := ?_) (a' := ?_) #[true, true, true, true, true, true, false, false, false, false, false, false, false, false] rfl rfl (any_of HT_.out (by kernel_rfl)) (fun _ _ _ h => h) (Or.inl ⟨by rfl, ?_⟩) ?_ ?_
                rotate_left
                · intro w'
                  go_simp
                  with_reducible rfl
                rotate_left
                · simp only [Act.put, List.setIfInBounds_toArray, List.set_cons_zero, List.set_cons_succ, i64_w, i32_w]
                  rfl
                refine pure_ (i := 6) (N := some 29) (v := ?_) (a' := ?_) #[true, true, true, true, true, true, true, false, false, false, false, false, false, false] rfl rfl (any_of HT_.out (by kernel_rfl)) (fun _ _ _ h => h) (Or.inl ⟨by rfl, ?_⟩) ?_ ?_
                rotate_left
                · intro w'
                  go_simp
                  with_reducible rfl
                rotate_left
                · simp only [Act.put, List.setIfInBounds_toArray, List.set_cons_zero, List.set_cons_succ, i64_w, i32_w]
                  rfl
                refine pure_ (i := 7) (N := some 30) (v := ?_) (a' := ?_) #[true, true, true, true, true, true, true, true, false, false, false, false, false, false] rfl rfl (any_of HT_.out (by kernel_rfl)) (fun _ _ _ h => h) (Or.inl ⟨by rfl, ?_⟩) ?_ ?_
                rotate_left
                · intro w'
                  go_simp
                  with_reducible rfl
                rotate_left
                · simp only [Act.put, List.setIfInBounds_toArray, List.set_cons_zero, List.set_cons_succ, i64_w, i32_w]
                  rfl
                refine pure_ (i := 8) (N := some 31) (v := ?_) (a' := ?_) #[true, true, true, true, true, true, true, true, true, false, false, false, false, false] rfl rfl (any_of HT_.out (by kernel_rfl)) (fun _ _ _ h => h) (Or.inl ⟨by rfl, ?_⟩) ?_ ?_
                rotate_left
                · intro w'
                  go_simp
                  with_reducible rfl
                rotate_left
                · simp only [Act.put, List.setIfInBounds_toArray, List.set_cons_zero, List.set_cons_succ, i64_w, i32_w]
                  rfl
                refine pure_ (i := 9) (N := some 32) (v := undef) (a' := ?_) #[true, true, true, true, true, true, true, true, true, true, false, false, false, false] rfl rfl (any_of HT_.out (by kernel_rfl)) (fun _ _ _ h => h) (Or.inr ⟨by rfl, rfl⟩) ?_ ?_
                rotate_left
                · simp only [Act.put, List.setIfInBounds_toArray, List.set_cons_zero, List.set_cons_succ, i64_w, i32_w]
                  rfl
                refine pure_ (i := 10) (N := some 33) (v := undef) (a' := ?_) #[true, true, true, true, true, true, true, true, true, true, true, false, false, false] rfl rfl (any_of HT_.out (by kernel_rfl)) (fun _ _ _ h => h) (Or.inr ⟨by rfl, rfl⟩) ?_ ?_
                rotate_left
                · simp only [Act.put, List.setIfInBounds_toArray, List.set_cons_zero, List.set_cons_succ, i64_w, i32_w]
                  rfl
                refine pure_ (i := 11) (N := some 34) (v := undef) (a' := ?_) #[true, true, true, true, true, true, true, true, true, true, true, true, false, false] rfl rfl (any_of HT_.out (by kernel_rfl)) (fun _ _ _ h => h) (Or.inr ⟨by rfl, rfl⟩) ?_ ?_
                rotate_left
                · simp only [Act.put, List.setIfInBounds_toArray, List.set_cons_zero, List.set_cons_succ, i64_w, i32_w]
                  rfl
                refine pure_ (i := 12) (N := some 35) (v := undef) (a' := ?_) #[true, true, true, true, true, true, true, true, true, true, true, true, true, false] rfl rfl (any_of HT_.out (by kernel_rfl)) (fun _ _ _ h => h) (Or.inr ⟨by rfl, rfl⟩) ?_ ?_
                rotate_left
                · simp only [Act.put, List.setIfInBounds_toArray, List.set_cons_zero, List.set_cons_succ, i64_w, i32_w]
                  rfl
                refine pure_ (i := 13) (N := some 36) (v := ?_) (a' := ?_) #[true, true, true, true, true, true, true, true, true, true, true, true, true, true] rfl rfl (any_of HT_.out (by kernel_rfl)) (fun _ _ _ h => h) (Or.inl ⟨by rfl, ?_⟩) ?_ ?_
                rotate_left
                · intro w'
                  go_simp
                  with_reducible rfl
                rotate_left
                · simp only [Act.put, List.setIfInBounds_toArray, List.set_cons_zero, List.set_cons_succ, i64_w, i32_w]
                  rfl
                refine done_ (done_of HT_.out (by kernel_rfl)) ?_
                try go_wp2
                go_meet
                case rel => exact ⟨_, (false), (by first | rfl | (simp; done) | (simp [*]; done)), H', ⟨by have := HJ2.out; have := HJ8.out; first | omega | exact Nat.le_refl _⟩, ⟨by (with_reducible repeat (first | apply Kd.V_alloc | apply Kd.V_drewN | apply Kd.V_drew)); exact HO_0.out⟩, ⟨by (with_reducible repeat (first | apply Kd.V_alloc | apply Kd.V_drewN | apply Kd.V_drew)); exact HO_1.out⟩, ⟨by repeat (first | (with_reducible first | exact HB.out | apply below_alloc | apply pw_below_drewN | apply below_drew1) | exact HB.out)⟩⟩
            · rw [if_neg c14] at H
              have c14b0 : ((x1_8.length : Int) == 4) = false := beq_eq_false_iff_ne.mpr c14
              have c14b1 : ((x1_8.length : Int) != 4) = true := bne_iff_ne.mpr c14
              (first | rw [c14b0] | (simp only [i64_w, i32_w]; rw [c14b0]) | skip)
              have H' := Aside0.mk H
              clear H
              try go_wp2
              have n0_ := Aside0.mk (Kd.V_drew HO_0.out)
              have n1_ := Aside0.mk (Kd.V_drew HO_1.out)
              have n2_ := Aside0.mk (below_drew1 HB.out)
              clear HO_0
              clear HO_1
              clear HB
              have HO_0 := n0_
              have HO_1 := n1_
              have HB := n2_
              clear n0_ n1_ n2_
              obtain ⟨Ao27, co27, eo27⟩ := Kd.V_slice HO_1.out
              (first | subst eo27 | (injection eo27 with f1_ f2_ f3_; have f4_ := f1_.symm; have f5_ := f3_.symm; clear f1_ f2_ f3_; subst f4_; subst f5_))
              refine start_ (n := 14) (S := fun w' => True) (ds := []) #[false, false, false, false, false, false, false, false, false, false, false, false, false, false] (by kernel_rfl) rfl rfl trivial (fun hHeld => ?_); refine with_tabW netcidr_IP_Mask.tab3 netcidr_IP_Mask.bits3 (fun HT_ HW_ => ?_)
              generalize wc.drew = w26 at HO_0 HO_1 HB hHeld ⊢
              refine pure_ (i := 0) (N := some 23) (v := ?_) (a' := ?_) #[true, false, false, false, false, false, false, false, false, false, false, false, false, false] rfl rfl (any_of HT_.out (by kernel_rfl)) (fun _ _ _ h => h) (Or.inl ⟨by rfl, ?_⟩) ?_ ?_
              rotate_left
              · intro w'
                go_simp
                with_reducible rfl
              rotate_left
              · simp only [Act.put, List.setIfInBounds_toArray, List.set_cons_zero, List.set_cons_succ, i64_w, i32_w]
                rfl
              refine pure_ (i := 1) (N := some 24) (v := ?_) (a' := ?_) #[true, true, false, false, false, false, false, false, false, false, false, false, false, false] rfl rfl (any_of HT_.out (by kernel_rfl)) (fun _ _ _ h => h) (Or.inl ⟨by rfl, ?_⟩) ?_ ?_
              rotate_left
              · intro w'
                go_simp
                with_reducible rfl
              rotate_left
              · simp only [Act.put, List.setIfInBounds_toArray, List.set_cons_zero, List.set_cons_succ, i64_w, i32_w]
                rfl
              refine pure_ (i := 2) (N := some 25) (v := ?_) (a' := ?_) #[true, true, true, false, false, false, false, false, false, false, false, false, false, false] rfl rfl (any_of HT_.out (by kernel_rfl)) (fun _ _ _ h => h) (Or.inl ⟨by rfl, ?_⟩) ?_ ?_
              rotate_left
              · intro w'
                go_simp
                with_reducible rfl
              rotate_left
              · simp only [Act.put, List.setIfInBounds_toArray, List.set_cons_zero, List.set_cons_succ, i64_w, i32_w]
                rfl
              refine pure_ (i := 3) (N := some 26) (v := ?_) (a' := ?_) #[true, true, true, true, false, false, false, false, false, false, false, false, false, false] rfl rfl (any_of HT_.out (by kernel_rfl)) (fun _ _ _ h => h) (Or.inl ⟨by rfl, ?_⟩) ?_ ?_
              rotate_left
              · intro w'
                go_simp
                with_reducible rfl
              rotate_left
              · simp only [Act.put, List.setIfInBounds_toArray, List.set_cons_zero, List.set_cons_succ, i64_w, i32_w]
                rfl
              refine pure_ (i := 4) (N := some 27) (v := undef) (a' := ?_) #[true, true, true, true, true, false, false, false, false, false, false, false, false, false] rfl rfl (any_of HT_.out (by kernel_rfl)) (fun _ _ _ h => h) (Or.inr ⟨by rfl, rfl⟩) ?_ ?_
              rotate_left
              · simp only [Act.put, List.setIfInBounds_toArray, List.set_cons_zero, List.set_cons_succ, i64_w, i32_w]
                rfl
              refine pure_ (i := 5) (N := some 28) (v := undef) (a' := ?_) #[true, true, true, true, true, true, false, false, false, false, false, false, false, false] rfl rfl (any_of HT_.out (by kernel_rfl)) (fun _ _ _ h => h) (Or.inr ⟨by rfl, rfl⟩) ?_ ?_
              rotate_left
              · simp only [Act.put, List.setIfInBounds_toArray, List.set_cons_zero, List.set_cons_succ, i64_w, i32_w]
                rfl
              refine pure_ (i := 6) (N := some 29) (v := undef) (a' := ?_) #[true, true, true, true, true, true, true, false, false, false, false, false, false, false] rfl rfl (any_of HT_.out (by kernel_rfl)) (fun _ _ _ h => h) (Or.inr ⟨by rfl, rfl⟩) ?_ ?_
              rotate_left
              · simp only [Act.put, List.setIfInBounds_toArray, List.set_cons_zero, List.set_cons_succ, i64_w, i32_w]
                rfl
              refine pure_ (i := 7) (N := some 30) (v := ?_) (a' := ?_) #[true, true, true, true, true, true, true, true, false, false, false, false, false, false] rfl rfl (any_of HT_.out (by kernel_rfl)) (fun _ _ _ h => h) (Or.inl ⟨by rfl, ?_⟩) ?_ ?_
              rotate_left
              · intro w'
                go_simp
                with_reducible rfl
              rotate_left
              · simp only [Act.put, List.setIfInBounds_toArray, List.set_cons_zero, List.set_cons_succ, i64_w, i32_w]
                rfl
              refine pure_ (i := 8) (N := some 31) (v := ?_) (a' := ?_) #[true, true, true, true, true, true, true, true, true, false, false, false, false, false] rfl rfl (any_of HT_.out (by kernel_rfl)) (fun _ _ _ h => h) (Or.inl ⟨by rfl, ?_⟩) ?_ ?_
              rotate_left
              · intro w'
                go_simp
                with_reducible rfl
              rotate_left
              · simp only [Act.put, List.setIfInBounds_toArray, List.set_cons_zero, List.set_cons_succ, i64_w, i32_w]
                rfl
              refine pure_ (i := 9) (N := some 32) (v := undef) (a' := ?_) #[true, true, true, true, true, true, true, true, true, true, false, false, false, false] rfl rfl (any_of HT_.out (by kernel_rfl)) (fun _ _ _ h => h) (Or.inr ⟨by rfl, rfl⟩) ?_ ?_
              rotate_left
              · simp only [Act.put, List.setIfInBounds_toArray, List.set_cons_zero, List.set_cons_succ, i64_w, i32_w]
                rfl
              refine pure_ (i := 10) (N := some 33) (v := undef) (a' := ?_) #[true, true, true, true, true, true, true, true, true, true, true, false, false, false] rfl rfl (any_of HT_.out (by kernel_rfl)) (fun _ _ _ h => h) (Or.inr ⟨by rfl, rfl⟩) ?_ ?_
              rotate_left
              · simp only [Act.put, List.setIfInBounds_toArray, List.set_cons_zero, List.set_cons_succ, i64_w, i32_w]
                rfl
              refine pure_ (i := 11) (N := some 34) (v := undef) (a' := ?_) #[true, true, true, true, true, true, true, true, true, true, true, true, false, false] rfl rfl (any_of HT_.out (by kernel_rfl)) (fun _ _ _ h => h) (Or.inr ⟨by rfl, rfl⟩) ?_ ?_
              rotate_left
              · simp only [Act.put, List.setIfInBounds_toArray, List.set_cons_zero, List.set_cons_succ, i64_w, i32_w]
                rfl
              refine pure_ (i := 12) (N := some 35) (v := undef) (a' := ?_) #[true, true, true, true, true, true, true, true, true, true, true, true, true, false] rfl rfl (any_of HT_.out (by kernel_rfl)) (fun _ _ _ h => h) (Or.inr ⟨by rfl, rfl⟩) ?_ ?_
              rotate_left
              · simp only [Act.put, List.setIfInBounds_toArray, List.set_cons_zero, List.set_cons_succ, i64_w, i32_w]
                rfl
              refine pure_ (i := 13) (N := some 36) (v := ?_) (a' := ?_) #[true, true, true, true, true, true, true, true, true, true, true, true, true, true] rfl rfl (any_of HT_.out (by kernel_rfl)) (fun _ _ _ h => h) (Or.inl ⟨by rfl, ?_⟩) ?_ ?_
              rotate_left
              · intro w'
                go_simp
                with_reducible rfl
              rotate_left
              · simp only [Act.put, List.setIfInBounds_toArray, List.set_cons_zero, List.set_cons_succ, i64_w, i32_w]
                rfl
              refine done_ (done_of HT_.out (by kernel_rfl)) ?_
              try go_wp2
              go_meet
              case rel => exact ⟨_, (false), (by first | rfl | (simp; done) | (simp [*]; done)), H', ⟨by have := HJ2.out; have := HJ8.out; first | omega | exact Nat.le_refl _⟩, ⟨by (with_reducible repeat (first | apply Kd.V_alloc | apply Kd.V_drewN | apply Kd.V_drew)); exact HO_0.out⟩, ⟨by (with_reducible repeat (first | apply Kd.V_alloc | apply Kd.V_drewN | apply Kd.V_drew)); exact HO_1.out⟩, ⟨by repeat (first | (with_reducible first | exact HB.out | apply below_alloc | apply pw_below_drewN | apply below_drew1) | exact HB.out)⟩⟩
          case rest =>
            clear HC13
            try clear c1
            try clear q1
            try clear p2
            try clear q2
            try clear c4
            try clear c4b0
            try clear c4b1
            try clear c5
            try clear c5b0
            try clear c5b1
            try clear c6
            try clear c6b0
            try clear c6b1
            try clear c7
            try clear q8
            try clear c10
            try clear c11
            try clear c11b0
            try clear c11b1
            try clear c12
            try clear q12
            try clear c14
            try clear c14b0
            try clear c14b1
            try clear c15
            try clear c15b0
            try clear c15b1
            try clear c16
            try clear c16b0
            try clear c16b1
            try clear q21
            try clear p2
            try clear q1
            try clear q12
            try clear q21
            try clear q8
            obtain ⟨kq, x36_12, rfl, HA, HJ12, HO_0, HO_1, HB⟩ := hcut
            cases kq with
            | zero => exact absurd HA.out (by simp [netcidr_IP_Mask.j2])
            | succ kj12 =>
              have H := HA.out
              clear HA
              simp only [netcidr_IP_Mask.j2] at H
              have HC28 := Aside0.mk H
              clear H
              go_upto_if 36 with (fail)
              go_cut [0] (fun v0 wc => ∃ (kq : Nat) (x0_27 : List Int), Aside0 (netcidr_IP_Mask.j3 kq x0_27 x1_8 = some r) ∧ Aside0 (kq ≤ kj12) ∧ Aside0 (Kd.V (Kd.int .u8) 5 wc w.heap.size (fun k_ => ((P0_ k_ ∨ P1_ k_) ∨ w.heap.size ≤ k_)) v0 x0_27) ∧ Aside0 (Kd.V (Kd.int .u8) 5 wc w.heap.size (fun k_ => ((P0_ k_ ∨ P1_ k_) ∨ w.heap.size ≤ k_)) u1 x1_8) ∧ Aside0 (Below w.heap.size w wc))
              case first =>
                have H := HC28.out
                clear HC28
                by_cases c29 : x36_12 = true
                · subst c29
                  have H1 : (if 12 ≤ (l0.length : Int) then (netcidr_IP_Mask.j3 kj12 (l0.drop 12) x1_8) else (none)) = some r := by rw [if_pos rfl] at H; exact H
                  clear H
                  have H := H1
                  clear H1
                  by_cases c30 : 12 ≤ (l0.length : Int)
                  · rw [if_pos c30] at H
                    have c30b0 := eq_true c30
                    have c30b1 : decide (12 ≤ (l0.length : Int)) = true := decide_eq_true c30
                    clear c30
                    obtain ⟨y224, hy224⟩ : ∃ y_ : List Int, y_ = (l0.drop 12) := ⟨_, rfl⟩
                    replace H : (netcidr_IP_Mask.j3 kj12 y224 x1_8) = some r := by first | (rw [hy224]; with_reducible exact H) | (have H2_ := (Option.bind_some _ _).symm.trans H; rw [hy224]; with_reducible exact H2_) | (have H2_ := (Option.bind_some _ _).symm.trans H; with_reducible exact H2_) | with_reducible exact H | (rw [hy224]; exact H) | exact H
                    have Ny224 := Aside0.mk hy224
                    clear hy224
                    have H' := Aside0.mk H
                    clear H
                    have q31 : (12 : Int) ≤ ((l0.length : Int) : Int) := of_decide_eq_true (by first | (with_reducible assumption) | assumption)
                    obtain ⟨i031, hi031, _, hsz31, _⟩ := info_parts info5
                    have hroom31 : l0.length ≤ c0 := (Kd.V_reads' HO_0.out).2.1
                    have hC31 : Kd.F (Kd.int .u8) _ _ A0 l0.length l0 := (Kd.V_at (base := w.heap.size) HO_0.out).2.2
                    have hcut31 := cut_from (P := Tryz.prog) 80 5 .i64 Tryz.underlying80 hi031 1 hsz31 A0 l0.length c0 12 (by omega) q31
                    have hr31 := Kd.F_cut (m := (12 : Int).toNat) (c := c0) hC31 (by omega) hroom31
                    obtain ⟨A31, hA31⟩ : ∃ zz_, zz_ = (if c0 = (12 : Int).toNat then A0 else (A0 : Option Addr).map (·.add ((12 : Int).toNat * 1))) := ⟨_, rfl⟩
                    obtain ⟨c31, hc31⟩ : ∃ zz_, zz_ = c0 - (12 : Int).toNat := ⟨_, rfl⟩
                    have hy31 : y224.length = l0.length - (12 : Int).toNat := (by rw [Ny224.out, List.length_drop] <;> omega)
                    rw [show (l0).drop (12 : Int).toNat = y224 from Ny224.out.symm] at hr31
                    replace hr31 : Kd.F (Kd.int .u8) _ _ A31 y224.length y224 := (by rw [hA31]; exact hr31)
                    rw [← hy31, ← hA31, ← hc31] at hcut31
                    have HO228 := Aside0.mk (show Kd.V (Kd.int .u8) 5 _ w.heap.size _ (.slice A31 y224.length c31) y224 from Kd.V_mk (by rw [hy31, hc31]; exact Nat.sub_le_sub_right hroom31 _) hr31)
                    have HC228 := Aside0.mk (show y224.length ≤ c31 from by rw [hy31, hc31]; exact Nat.sub_le_sub_right hroom31 _)
                    clear hr31 hC31 hroom31 hi031 hsz31 hc31
                    have KY31 := Aside0.mk hy31
                    have KA31 := Aside0.mk hA31
                    clear hy31 hA31
                    replace q31 := eq_true q31
                    go_wp2
                    go_meet
                    case rel => exact ⟨_, (y224), H', ⟨by have := HJ2.out; have := HJ8.out; have := HJ12.out; first | omega | exact Nat.le_refl _⟩, ⟨by (with_reducible repeat (first | apply Kd.V_alloc | apply Kd.V_drewN | apply Kd.V_drew)); exact HO228.out⟩, ⟨by (with_reducible repeat (first | apply Kd.V_alloc | apply Kd.V_drewN | apply Kd.V_drew)); exact HO_1.out⟩, ⟨by repeat (first | (with_reducible first | exact HB.out | apply below_alloc | apply pw_below_drewN | apply below_drew1) | exact HB.out)⟩⟩
                  · rw [if_neg c30] at H
                    exact absurd H (by simp)
                · replace c29 := Bool.eq_false_iff.mpr c29
                  subst c29
                  have H1 : (netcidr_IP_Mask.j3 kj12 l0 x1_8) = some r := by rw [if_neg (show ¬ (false = true) by decide)] at H; exact H
                  clear H
                  have H := H1
                  clear H1
                  have H' := Aside0.mk H
                  clear H
                  go_wp2
                  go_meet
                  case rel => exact ⟨_, (l0), H', ⟨by have := HJ2.out; have := HJ8.out; have := HJ12.out; first | omega | exact Nat.le_refl _⟩, ⟨by (with_reducible repeat (first | apply Kd.V_alloc | apply Kd.V_drewN | apply Kd.V_drew)); exact HO_0.out⟩, ⟨by (with_reducible repeat (first | apply Kd.V_alloc | apply Kd.V_drewN | apply Kd.V_drew)); exact HO_1.out⟩, ⟨by repeat (first | (with_reducible first | exact HB.out | apply below_alloc | apply pw_below_drewN | apply below_drew1) | exact HB.out)⟩⟩
              case rest =>
                clear HC28
                try clear c1
                try clear q1
                try clear c2
                try clear p2
                try clear q2
                try clear c3
                try clear q3
                try clear c4
                try clear c4b0
                try clear c4b1
                try clear c5
                try clear c5b0
                try clear c5b1
                try clear c6
                try clear c6b0
                try clear c6b1
                try clear c7
                try clear q8
                try clear c10
                try clear c11
                try clear c11b0
                try clear c11b1
                try clear c12
                try clear q12
                try clear c14
                try clear c14b0
                try clear c14b1
                try clear c15
                try clear c15b0
                try clear c15b1
                try clear c16
                try clear c16b0
                try clear c16b1
                try clear q21
                try clear c29
                try clear c30
                try clear c30b0
                try clear c30b1
                try clear c31
                try clear q31
                try clear p2
                try clear q1
                try clear q12
                try clear q2
                try clear q21
                try clear q31
                try clear q8
                obtain ⟨kq, x0_27, HA, HJ27, HO_0, HO_1, HB⟩ := hcut
                cases kq with
                | zero => exact absurd HA.out (by simp [netcidr_IP_Mask.j3])
                | succ kj27 =>
                  have H := HA.out
                  clear HA
                  simp only [netcidr_IP_Mask.j3] at H
                  by_cases c32 : (x0_27.length : Int) = (x1_8.length : Int)
                  · rw [if_pos c32] at H
                    have c32b0 : ((x0_27.length : Int) == (x1_8.length : Int)) = true := beq_iff_eq.mpr c32
                    have c32b1 : ((x0_27.length : Int) != (x1_8.length : Int)) = false := bne_eq_false_iff_eq.mpr c32
                    have c32b2 : (x0_27.length == x1_8.length) = true := by first | simpa using c32 | (simp at c32 ⊢; omega)
                    clear c32
                    by_cases c33 : 0 ≤ (x0_27.length : Int)
                    · rw [if_pos c33] at H
                      have c33b0 := eq_true c33
                      have c33b1 : decide (0 ≤ (x0_27.length : Int)) = true := decide_eq_true c33
                      clear c33
                      by_cases c34 : ((x0_27.length : Int) : Int).toNat ≤ 281474976710656
                      · rw [if_pos c34] at H
                        have c34b0 := eq_true c34
                        have c34b1 : decide (((x0_27.length : Int) : Int).toNat ≤ 281474976710656) = true := decide_eq_true c34
                        clear c34
                        obtain ⟨y229, hy229⟩ : ∃ y_ : List Int, y_ = (List.replicate ((x0_27.length : Int) : Int).toNat 0) := ⟨_, rfl⟩
                        replace H : (netcidr_IP_Mask.l0 kj27 x0_27 x1_8 (x0_27.length : Int) y229 0) = some r := by first | (rw [hy229]; with_reducible exact H) | (have H2_ := (Option.bind_some _ _).symm.trans H; rw [hy229]; with_reducible exact H2_) | (have H2_ := (Option.bind_some _ _).symm.trans H; with_reducible exact H2_) | with_reducible exact H | (rw [hy229]; exact H) | exact H
                        have Ny229 := Aside0.mk hy229
                        clear hy229
                        have H' := Aside0.mk H
                        clear H
                        obtain ⟨Ao35, co35, eo35⟩ := Kd.V_slice HO_0.out
                        subst eo35
                        obtain ⟨Ao36, co36, eo36⟩ := Kd.V_slice HO_1.out
                        subst eo36
                        go_wp2_with (first | ((with_reducible refine gate_dst (N := 46) rfl ?_); (try (refine gate_guard (by rfl) ?_; dsimp only)); refine Kd.R_make (Kd.int .u8) _ 5 rfl (N := 46) rfl 80 _ _ rfl (x0_27.length : Int) rfl rfl Tryz.underlying80 (.int .u8 0) 1 info5 rfl (by decide) (by omega) 0 (ok := fun _ => True) (okp := fun _ => True) rfl (fun _ hk => hk) trivial (of_decide_eq_true (by first | (with_reducible assumption) | assumption)) (Nat.le_trans (Nat.mul_le_mul_right _ (of_decide_eq_true (by first | (with_reducible assumption) | assumption) : (x0_27.length : Int).toNat ≤ 281474976710656)) (by omega)) (Below.refl _ _) (Nat.le_refl _) ?_; intro v230 w37 ho38 hb hg_ hnew_; clear hg_ hnew_; (first | rw [← Ny229.out] at ho38 | (simp only [Int.reduceToNat] at ho38; rw [← Ny229.out] at ho38)); have n0_ := Aside0.mk (Kd.V_elder' (by (with_reducible repeat (first | apply Kd.V_alloc | apply Kd.V_drewN | apply Kd.V_drew)); exact HO_0.out) (Kd.R_base ho38) hb); have n1_ := Aside0.mk (Kd.V_elder' (by (with_reducible repeat (first | apply Kd.V_alloc | apply Kd.V_drewN | apply Kd.V_drew)); exact HO_1.out) (Kd.R_base ho38) hb); have n2_ := Aside0.mk (Kd.R_lower (Kd.R_newM (M := fun k_ => (w.heap.size ≤ k_)) ho38 (below_size (by repeat (first | (with_reducible first | exact HB.out | apply below_alloc | apply pw_below_drewN | apply below_drew1) | exact HB.out))) (fun k_ h_ => h_)) (below_size (by repeat (first | (with_reducible first | exact HB.out | apply below_alloc | apply pw_below_drewN | apply below_drew1) | exact HB.out)))); have n3_ := Aside0.mk (below_step (by repeat (first | (with_reducible first | exact HB.out | apply below_alloc | apply pw_below_drewN | apply below_drew1) | exact HB.out)) hb); clear HO_0; clear HO_1; clear HB; have HO_0 := n0_; have HO_1 := n1_; have HO231 := n2_; have HB := n3_; clear n0_ n1_ n2_ n3_; clear hb ho38))
                        go_loopg [7] kj27 (fun kq v7 w' => ∃ (x6_5 : List Int) (x7_5 : Int), v7 = .int .i64 x7_5 ∧ Aside0 (netcidr_IP_Mask.l0 kq x0_27 x1_8 (x0_27.length : Int) x6_5 x7_5 = some r) ∧ Aside0 (kq ≤ kj27) ∧ Aside0 (Kd.V (Kd.int .u8) 5 w' w.heap.size (fun k_ => ((P0_ k_ ∨ P1_ k_) ∨ w.heap.size ≤ k_) ∧ some k_ ≠ (v230 : Value).ownBlock) (.slice Ao35 x0_27.length co35) x0_27) ∧ Aside0 (Kd.V (Kd.int .u8) 5 w' w.heap.size (fun k_ => ((P0_ k_ ∨ P1_ k_) ∨ w.heap.size ≤ k_) ∧ some k_ ≠ (v230 : Value).ownBlock) (.slice Ao36 x1_8.length co36) x1_8) ∧ Aside0 (Kd.R (Kd.int .u8) 5 w' w.heap.size (fun k_ => (w.heap.size ≤ k_)) v230 x6_5) ∧ Aside0 (Below w.heap.size w w'))
                        case atStart => exact ⟨(y229), (0), (by first | rfl | (simp; done) | (simp [*]; done)), H', ⟨Nat.le_refl _⟩, ⟨by (with_reducible repeat (first | apply Kd.V_alloc | apply Kd.V_drewN | apply Kd.V_drew)); exact HO_0.out⟩, ⟨by (with_reducible repeat (first | apply Kd.V_alloc | apply Kd.V_drewN | apply Kd.V_drew)); exact HO_1.out⟩, ⟨by (with_reducible repeat (first | apply Kd.R_alloc | apply Kd.R_drewN | apply Kd.R_drew)); exact Kd.R_mono HO231.out (fun _ hk => hk.1)⟩, ⟨by repeat (first | (with_reducible first | exact HB.out | apply below_alloc | apply pw_below_drewN | apply below_drew1) | exact HB.out)⟩⟩
                        case round =>
                          clear H'
                          try clear c1
                          try clear q1
                          try clear c2
                          try clear p2
                          try clear q2
                          try clear c3
                          try clear q3
                          try clear c4
                          try clear c4b0
                          try clear c4b1
                          try clear c5
                          try clear c5b0
                          try clear c5b1
                          try clear c6
                          try clear c6b0
                          try clear c6b1
                          try clear c7
                          try clear q8
                          try clear c10
                          try clear c11
                          try clear c11b0
                          try clear c11b1
                          try clear c12
                          try clear q12
                          try clear c14
                          try clear c14b0
                          try clear c14b1
                          try clear c15
                          try clear c15b0
                          try clear c15b1
                          try clear c16
                          try clear c16b0
                          try clear c16b1
                          try clear q21
                          try clear c29
                          try clear c30
                          try clear c30b0
                          try clear c30b1
                          try clear c31
                          try clear q31
                          try clear c32
                          try clear c32b0
                          try clear c32b1
                          try clear c32b2
                          try clear c33
                          try clear c33b0
                          try clear c33b1
                          try clear c34
                          try clear c34b0
                          try clear c34b1
                          try clear p2
                          try clear q1
                          try clear q12
                          try clear q2
                          try clear q21
                          try clear q3
                          try clear q31
                          try clear q8
                          obtain ⟨x6_5, x7_5, rfl, HA, HK5, HO_0, HO_1, HO_6, HB⟩ := hrel
                          cases gk with
                          | zero => exact absurd HA.out (by simp [netcidr_IP_Mask.l0])
                          | succ k5 =>
                            have H := HA.out
                            clear HA
                            simp only [netcidr_IP_Mask.l0] at H
                            by_cases c39 : x7_5 < (x0_27.length : Int)
                            · rw [if_pos c39] at H
                              have c39b0 : decide (x7_5 < (x0_27.length : Int)) = true := decide_eq_true c39
                              clear c39
                              by_cases c40 : 0 ≤ x7_5
                              · rw [if_pos c40] at H
                                have c40b0 : decide (0 ≤ x7_5) = true := decide_eq_true c40
                                clear c40
                                by_cases c41 : x7_5 < (x0_27.length : Int)
                                · rw [if_pos c41] at H
                                  have c41b0 : decide (x7_5 < (x0_27.length : Int)) = true := decide_eq_true c41
                                  clear c41
                                  by_cases c42 : x7_5 < (x1_8.length : Int)
                                  · rw [if_pos c42] at H
                                    have c42b0 : decide (x7_5 < (x1_8.length : Int)) = true := decide_eq_true c42
                                    clear c42
                                    by_cases c43 : x7_5 < (x6_5.length : Int)
                                    · rw [if_pos c43] at H
                                      have c43b0 : decide (x7_5 < (x6_5.length : Int)) = true := decide_eq_true c43
                                      clear c43
                                      obtain ⟨y234, hy234⟩ : ∃ y_ : List Int, y_ = (x6_5.set (x7_5 : Int).toNat (Go.bits .and .u8 (rd x0_27 x7_5) (rd x1_8 x7_5))) := ⟨_, rfl⟩
                                      replace H : (netcidr_IP_Mask.l0 k5 x0_27 x1_8 (x0_27.length : Int) y234 (wrap64 (x7_5 + 1))) = some r := by first | (rw [hy234]; with_reducible exact H) | (have H2_ := (Option.bind_some _ _).symm.trans H; rw [hy234]; with_reducible exact H2_) | (have H2_ := (Option.bind_some _ _).symm.trans H; with_reducible exact H2_) | with_reducible exact H | (rw [hy234]; exact H) | exact H
                                      have Ny234 := Aside0.mk hy234
                                      clear hy234
                                      have H' := Aside0.mk H
                                      clear H
                                      try go_wp2
                                      have n0_ := Aside0.mk (Kd.V_drew HO_0.out)
                                      have n1_ := Aside0.mk (Kd.V_drew HO_1.out)
                                      have n2_ := Aside0.mk (Kd.R_drew HO_6.out)
                                      have n3_ := Aside0.mk (below_drew1 HB.out)
                                      clear HO_0
                                      clear HO_1
                                      clear HO_6
                                      clear HB
                                      have HO_0 := n0_
                                      have HO_1 := n1_
                                      have HO_6 := n2_
                                      have HB := n3_
                                      clear n0_ n1_ n2_ n3_
                                      have p232 : 0 ≤ (x7_5 : Int) := of_decide_eq_true (by first | (with_reducible assumption) | assumption)
                                      have q232 : x7_5 < (x0_27.length : Int) := of_decide_eq_true (by first | (with_reducible assumption) | assumption)
                                      obtain ⟨ad232, e232, hx232_0⟩ := Kd.at_int (Kd.V_reads' HO_0.out).2.2 x7_5 p232 q232
                                      cases e232
                                      replace p232 := eq_true p232
                                      replace q232 := eq_true q232
                                      have p233 : 0 ≤ (x7_5 : Int) := of_decide_eq_true (by first | (with_reducible assumption) | assumption)
                                      have q233 : x7_5 < (x1_8.length : Int) := of_decide_eq_true (by first | (with_reducible assumption) | assumption)
                                      obtain ⟨ad233, e233, hx233_0⟩ := Kd.at_int (Kd.V_reads' HO_1.out).2.2 x7_5 p233 q233
                                      cases e233
                                      replace p233 := eq_true p233
                                      replace q233 := eq_true q233
                                      have p44 : 0 ≤ (x7_5 : Int) := of_decide_eq_true (by first | (with_reducible assumption) | assumption)
                                      have q44 : (x7_5 : Int) < ((x6_5.length : Int) : Int) := of_decide_eq_true (by first | (with_reducible assumption) | assumption)
                                      obtain ⟨go44, co44, eo44, gb44, gl44, cl44, HG44⟩ := Kd.R_form HO_6.out (by omega)
                                      (first | cases eo44 | (injection eo44 with ea_ en_ ec_; (first | subst ea_ | (injection ea_ with ea_; subst ea_)); subst ec_; clear en_))
                                      have GB44 := Aside0.mk gb44
                                      have GG44 := Aside0.mk HG44
                                      clear gb44 gl44 HG44
                                      obtain ⟨hx44_0, hf44_0⟩ := Kd.R_celln 0 HO_6.out (x7_5 : Int) p44 q44
                                      replace p44 := eq_true p44
                                      replace q44 := eq_true q44
                                      have HP46 := Kd.R_putn HO_6.out (x7_5 : Int) (Go.bits .and .u8 (rd x0_27 x7_5) (rd x1_8 x7_5))
                                      rw [← Ny234.out] at HP46
                                      have HQ46 := Aside0.mk HP46
                                      clear HP46
                                      refine start_ (n := 13) (S := fun w' => w'.cell? (ad232.add (x7_5).toNat) = some (.int .u8 (rd x0_27 x7_5)) ∧ w'.cell? (ad233.add (x7_5).toNat) = some (.int .u8 (rd x1_8 x7_5))) (ds := [12]) #[false, false, false, false, false, false, false, false, false, false, false, false, false] (by kernel_rfl) rfl rfl ⟨hx232_0, hx233_0⟩ (fun hHeld => ?_); refine with_tabW netcidr_IP_Mask.tab12 netcidr_IP_Mask.bits12 (fun HT_ HW_ => ?_)
                                      generalize wr.drew = w45 at HO_0 HO_1 HO_6 HB GG44 HQ46 hf44_0 hx232_0 hx233_0 hx44_0 hHeld ⊢
                                      refine pure_ (i := 0) (N := some 52) (v := ?_) (a' := ?_) #[true, false, false, false, false, false, false, false, false, false, false, false, false] rfl rfl (any_of HT_.out (by kernel_rfl)) (fun _ _ _ h => h) (Or.inl ⟨by rfl, ?_⟩) ?_ ?_
                                      rotate_left
                                      · intro w'
                                        go_simp
                                        with_reducible rfl
                                      rotate_left
                                      · simp only [Act.put, List.setIfInBounds_toArray, List.set_cons_zero, List.set_cons_succ, i64_w, i32_w]
                                        rfl
                                      refine pure_ (i := 1) (N := some 53) (v := ?_) (a' := ?_) #[true, true, false, false, false, false, false, false, false, false, false, false, false] rfl rfl (any_of HT_.out (by kernel_rfl)) (fun _ _ _ h => h) (Or.inl ⟨by rfl, ?_⟩) ?_ ?_
                                      rotate_left
                                      · intro w'
                                        go_simp
                                        with_reducible rfl
                                      rotate_left
                                      · simp only [Act.put, List.setIfInBounds_toArray, List.set_cons_zero, List.set_cons_succ, i64_w, i32_w]
                                        rfl
                                      refine pure_ (i := 2) (N := some 54) (v := ?_) (a' := ?_) #[true, true, true, false, false, false, false, false, false, false, false, false, false] rfl rfl (any_of HT_.out (by kernel_rfl)) (fun _ _ _ h => h) (Or.inl ⟨by rfl, ?_⟩) ?_ ?_
                                      rotate_left
                                      · intro w'
                                        go_simp
                                        with_reducible rfl
                                      rotate_left
                                      · simp only [Act.put, List.setIfInBounds_toArray, List.set_cons_zero, List.set_cons_succ, i64_w, i32_w]
                                        rfl
                                      refine pure_ (i := 3) (N := some 55) (v := ?_) (a' := ?_) #[true, true, true, true, false, false, false, false, false, false, false, false, false] rfl rfl (any_of HT_.out (by kernel_rfl)) (fun _ _ _ h => h) (Or.inl ⟨by rfl, ?_⟩) ?_ ?_
                                      rotate_left
                                      · intro w'
                                        go_simp
                                        with_reducible rfl
                                      rotate_left
                                      · simp only [Act.put, List.setIfInBounds_toArray, List.set_cons_zero, List.set_cons_succ, i64_w, i32_w]
                                        rfl
                                      refine pure_ (i := 4) (N := some 56) (v := ?_) (a' := ?_) #[true, true, true, true, true, false, false, false, false, false, false, false, false] rfl rfl (any_of HT_.out (by kernel_rfl)) (fun _ _ _ h => h) (Or.inl ⟨by rfl, ?_⟩) ?_ ?_
                                      rotate_left
                                      · intro w'
                                        go_simp
                                        with_reducible rfl
                                      rotate_left
                                      · simp only [Act.put, List.setIfInBounds_toArray, List.set_cons_zero, List.set_cons_succ, i64_w, i32_w]
                                        rfl
                                      refine pure_ (i := 6) (N := some 58) (v := ?_) (a' := ?_) #[true, true, true, true, true, false, true, false, false, false, false, false, false] rfl rfl (any_of HT_.out (by kernel_rfl)) (fun _ _ _ h => h) (Or.inl ⟨by rfl, ?_⟩) ?_ ?_
                                      rotate_left
                                      · intro w'
                                        go_simp
                                        with_reducible rfl
                                      rotate_left
                                      · simp only [Act.put, List.setIfInBounds_toArray, List.set_cons_zero, List.set_cons_succ, i64_w, i32_w]
                                        rfl
                                      refine pure_ (i := 7) (N := some 59) (v := ?_) (a' := ?_) #[true, true, true, true, true, false, true, true, false, false, false, false, false] rfl rfl (any_of HT_.out (by kernel_rfl)) (fun _ _ _ h => h) (Or.inl ⟨by rfl, ?_⟩) ?_ ?_
                                      rotate_left
                                      · intro w'
                                        go_simp
                                        with_reducible rfl
                                      rotate_left
                                      · simp only [Act.put, List.setIfInBounds_toArray, List.set_cons_zero, List.set_cons_succ, i64_w, i32_w]
                                        rfl
                                      refine pure_ (i := 8) (N := some 60) (v := ?_) (a' := ?_) #[true, true, true, true, true, false, true, true, true, false, false, false, false] rfl rfl (any_of HT_.out (by kernel_rfl)) (fun _ _ _ h => h) (Or.inl ⟨by rfl, ?_⟩) ?_ ?_
                                      rotate_left
                                      · intro w'
                                        go_simp
                                        with_reducible rfl
                                      rotate_left
                                      · simp only [Act.put, List.setIfInBounds_toArray, List.set_cons_zero, List.set_cons_succ, i64_w, i32_w]
                                        rfl
                                      refine take_ (i := 5) (N := some 57) (v := ?_) (a' := ?_) #[true, true, true, true, true, true, true, true, true, false, false, false, false] rfl rfl (take_ofW HT_.out HW_.out (by kernel_rfl)) (fun _ _ _ h => h) (Or.inl ⟨by rfl, ?_⟩) hHeld ?_ ?_
                                      rotate_left
                                      · rintro w' ⟨s0, s1⟩
                                        go_simp
                                        with_reducible rfl
                                      rotate_left
                                      · simp only [Act.put, List.setIfInBounds_toArray, List.set_cons_zero, List.set_cons_succ, i64_w, i32_w]
                                        rfl
                                      refine take_ (i := 9) (N := some 61) (v := ?_) (a' := ?_) #[true, true, true, true, true, true, true, true, true, true, false, false, false] rfl rfl (take_ofW HT_.out HW_.out (by kernel_rfl)) (fun _ _ _ h => h) (Or.inl ⟨by rfl, ?_⟩) hHeld ?_ ?_
                                      rotate_left
                                      · rintro w' ⟨s0, s1⟩
                                        go_simp
                                        with_reducible rfl
                                      rotate_left
                                      · simp only [Act.put, List.setIfInBounds_toArray, List.set_cons_zero, List.set_cons_succ, i64_w, i32_w]
                                        rfl
                                      refine pure_ (i := 10) (N := some 62) (v := ?_) (a' := ?_) #[true, true, true, true, true, true, true, true, true, true, true, false, false] rfl rfl (any_of HT_.out (by kernel_rfl)) (fun _ _ _ h => h) (Or.inl ⟨by rfl, ?_⟩) ?_ ?_
                                      rotate_left
                                      · intro w'
                                        go_simp
                                        with_reducible rfl
                                      rotate_left
                                      · simp only [Act.put, List.setIfInBounds_toArray, List.set_cons_zero, List.set_cons_succ, i64_w, i32_w]
                                        rfl
                                      refine pure_ (i := 11) (N := some 63) (v := ?_) (a' := ?_) #[true, true, true, true, true, true, true, true, true, true, true, true, false] rfl rfl (any_of HT_.out (by kernel_rfl)) (fun _ _ _ h => h) (Or.inl ⟨by rfl, ?_⟩) ?_ ?_
                                      rotate_left
                                      · intro w'
                                        go_simp
                                        with_reducible rfl
                                      rotate_left
                                      · simp only [Act.put, List.setIfInBounds_toArray, List.set_cons_zero, List.set_cons_succ, i64_w, i32_w]
                                        rfl
                                      refine last_ (i := 12) (N := none) #[true, true, true, true, true, true, true, true, true, true, true, true, true] rfl rfl (one_of HT_.out (by kernel_rfl)) (by decide) (fun K hK => ?_)
                                      refine skip_ (w1 := ?_) (by rfl) rfl ?_ ?_
                                      rotate_left
                                      · go_simp
                                        rfl
                                      refine hK.out _ _ ?_
                                      clear hK K
                                      refine done_ (done_of HT_.out (by kernel_rfl)) ?_
                                      try go_wp2
                                      go_roundg k5
                                      case measure => have := HJ2.out; have := HJ8.out; have := HJ12.out; have := HJ27.out; have := HK5.out; omega
                                      case rel => exact ⟨(y234), (wrap64 (x7_5 + 1)), (by first | rfl | (simp; done) | (simp [*]; done)), H', ⟨by have := HJ2.out; have := HJ8.out; have := HJ12.out; have := HJ27.out; have := HK5.out; omega⟩, ⟨by (with_reducible repeat (first | apply Kd.V_alloc | apply Kd.V_drewN | apply Kd.V_drew)); exact Kd.V_mono (Kd.V_far (p := ⟨go44, (x7_5 : Int).toNat, none⟩) (Kd.V_mono HO_0.out (fun k_ hk => (⟨hk, fun e_ => hk.2 (by rw [e_]; rfl)⟩ : _ ∧ k_ ≠ go44))) (fun _ hk => hk.2) (.int .u8 (Go.bits .and .u8 (rd x0_27 x7_5) (rd x1_8 x7_5)))) (fun _ hk => ⟨hk.1.1, hk.1.2⟩)⟩, ⟨by (with_reducible repeat (first | apply Kd.V_alloc | apply Kd.V_drewN | apply Kd.V_drew)); exact Kd.V_mono (Kd.V_far (p := ⟨go44, (x7_5 : Int).toNat, none⟩) (Kd.V_mono HO_1.out (fun k_ hk => (⟨hk, fun e_ => hk.2 (by rw [e_]; rfl)⟩ : _ ∧ k_ ≠ go44))) (fun _ hk => hk.2) (.int .u8 (Go.bits .and .u8 (rd x0_27 x7_5) (rd x1_8 x7_5)))) (fun _ hk => ⟨hk.1.1, hk.1.2⟩)⟩, ⟨by (with_reducible repeat (first | apply Kd.R_alloc | apply Kd.R_drewN | apply Kd.R_drew)); exact HQ46.out⟩, ⟨by repeat (first | (with_reducible first | exact HB.out | apply below_alloc | apply pw_below_drewN | apply below_drew1 | refine below_set ?_ GB44.out) | exact HB.out)⟩⟩
                                    · rw [if_neg c43] at H
                                      exact absurd H (by simp)
                                  · rw [if_neg c42] at H
                                    exact absurd H (by simp)
                                · rw [if_neg c41] at H
                                  exact absurd H (by simp)
                              · rw [if_neg c40] at H
                                exact absurd H (by simp)
                            · rw [if_neg c39] at H
                              have c39b0 : decide (x7_5 < (x0_27.length : Int)) = false := decide_eq_false c39
                              clear c39
                              obtain rfl := Option.some.inj H
                              go_wp2
                              go_ret
                              exact ⟨_, by first | rfl | (simp [errW_none, errW_some] <;> rfl) | (simp [*, errW_none, errW_some] <;> rfl), by (with_reducible repeat (first | apply Kd.R_alloc | apply Kd.R_drewN | apply Kd.R_drew)); exact HO_6.out, by repeat (first | (with_reducible first | exact HB.out | apply below_alloc | apply pw_below_drewN | apply below_drew1) | exact HB.out)⟩
                      · rw [if_neg c34] at H
                        exact absurd H (by simp)
                    · rw [if_neg c33] at H
                      exact absurd H (by simp)
                  · rw [if_neg c32] at H
                    have c32b0 : ((x0_27.length : Int) == (x1_8.length : Int)) = false := beq_eq_false_iff_ne.mpr c32
                    have c32b1 : ((x0_27.length : Int) != (x1_8.length : Int)) = true := bne_iff_ne.mpr c32
                    have c32b2 : (x0_27.length == x1_8.length) = false := by first | simpa using c32 | (simp at c32 ⊢; omega)
                    obtain rfl := Option.some.inj H
                    obtain ⟨Ao47, co47, eo47⟩ := Kd.V_slice HO_0.out
                    subst eo47
                    obtain ⟨Ao48, co48, eo48⟩ := Kd.V_slice HO_1.out
                    subst eo48
                    go_wp2
                    go_ret
                    exact ⟨_, by first | rfl | (simp [errW_none, errW_some] <;> rfl) | (simp [*, errW_none, errW_some] <;> rfl), by first | exact Kd.R_nil _ _ _ _ _ | exact Kd.N_nil _ _ _ _ _ | exact Kd.V_nil _ _ _ _ _ | exact Kd.Q_nil _ _ _ _ _ | exact Kd.S_nil _ _ _ _ _, by repeat (first | (with_reducible first | exact HB.out | apply below_alloc | apply pw_below_drewN | apply below_drew1) | exact HB.out)⟩

end Go.Proofs.YtpemdpfageikfaaGreatDoor.Q
/-
  Contracts of IP.Equal and IPv6loopback.
  Written by the kit's print.sh for this seat, sections of it laid into this text by a small program (wip/tools/mkq.py); namespace Q.
-/
namespace Go.Proofs.YtpemdpfageikfaaGreatDoor.Q
open Go.RowKit Go.Proofs.YtpemdpfageikfaaGreatDoorW.PrintWords Go.Proofs.YtpemdpfageikfaaGreatDoorW.PrintLast Go.Proofs.YtpemdpfageikfaaGreatDoorW.PrintMore
attribute [local go_sem] max2_int min2_int max_two min_two max_three min_three max_four min_four   -- for this text's walks alone
set_option linter.unusedVariables false
set_option linter.unusedSimpArgs false

/-! ### netcidr_IP_Equal: function 90 -/
mutual
def netcidr_IP_Equal.j0 : Nat → List Int → List Int → Bool → Option (Bool)
  | 0, _, _, _ => none
  | k + 1, x0, x1, x20 => if x20 = true then (if 0 ≤ 12 then (if 12 ≤ (x1.length : Int) then ((netcidr_v4InV6Prefix.f).bind fun t256 => ((bytes_Equal.f ((x1.take 12).drop 0) t256).bind fun t259 => (if t259 = true then ((bytes_Equal.f x0 (x1.drop 12)).bind fun t261 => (some t261)) else (some false)))) else (none)) else (none)) else (if (x0.length : Int) = 16 then (netcidr_IP_Equal.j1 k x0 x1 ((x1.length : Int) == 4)) else (netcidr_IP_Equal.j1 k x0 x1 false))
def netcidr_IP_Equal.j1 : Nat → List Int → List Int → Bool → Option (Bool)
  | 0, _, _, _ => none
  | k + 1, x0, x1, x38 => if x38 = true then (if 0 ≤ 12 then (if 12 ≤ (x0.length : Int) then ((netcidr_v4InV6Prefix.f).bind fun t263 => ((bytes_Equal.f ((x0.take 12).drop 0) t263).bind fun t266 => (if t266 = true then ((bytes_Equal.f (x0.drop 12) x1).bind fun t268 => (some t268)) else (some false)))) else (none)) else (none)) else (some false)
end
def netcidr_IP_Equal.f (k : Nat) (l0 : List Int) (l1 : List Int) : Option (Bool) := if (l0.length : Int) = (l1.length : Int) then ((bytes_Equal.f l0 l1).bind fun t254 => (some t254)) else (if (l0.length : Int) = 4 then (netcidr_IP_Equal.j0 k l0 l1 ((l1.length : Int) == 16)) else (netcidr_IP_Equal.j0 k l0 l1 false))
theorem netcidr_IP_Equal.mono_l : ∀ k, (∀ y0 y1 y2, LeO (netcidr_IP_Equal.j0 k y0 y1 y2) (netcidr_IP_Equal.j0 (k + 1) y0 y1 y2)) ∧ (∀ y0 y1 y2, LeO (netcidr_IP_Equal.j1 k y0 y1 y2) (netcidr_IP_Equal.j1 (k + 1) y0 y1 y2))
  | 0 => ⟨fun _ _ _ r h => by simp [netcidr_IP_Equal.j0] at h, fun _ _ _ r h => by simp [netcidr_IP_Equal.j1] at h⟩
  | k + 1 => by
    obtain ⟨ih0, ih1⟩ := netcidr_IP_Equal.mono_l k
    refine ⟨?_, ?_⟩
    · intro y0 y1 y2
      unfold netcidr_IP_Equal.j0
      repeat' first
      | (with_reducible exact ih0 _ _ _)
      | (with_reducible exact ih1 _ _ _)
      | (with_reducible exact LeO.refl _)
      | (with_reducible exact LeO.none _)
      | (with_reducible refine LeO.ite ?_ ?_)
      | (with_reducible refine LeO.bind ?_ (fun _ => ?_))
      | exact ih0 _ _ _
      | exact ih1 _ _ _
      | exact LeO.none _
      | refine LeO.ite ?_ ?_
      | refine LeO.bind ?_ (fun _ => ?_)
    · intro y0 y1 y2
      unfold netcidr_IP_Equal.j1
      repeat' first
      | (with_reducible exact ih0 _ _ _)
      | (with_reducible exact ih1 _ _ _)
      | (with_reducible exact LeO.refl _)
      | (with_reducible exact LeO.none _)
      | (with_reducible refine LeO.ite ?_ ?_)
      | (with_reducible refine LeO.bind ?_ (fun _ => ?_))
      | exact ih0 _ _ _
      | exact ih1 _ _ _
      | exact LeO.none _
      | refine LeO.ite ?_ ?_
      | refine LeO.bind ?_ (fun _ => ?_)
theorem netcidr_IP_Equal.mono : ∀ a0 a1 k, LeO (netcidr_IP_Equal.f k a0 a1) (netcidr_IP_Equal.f (k + 1) a0 a1) := by
  intro a0 a1 k
  obtain ⟨ih0, ih1⟩ := netcidr_IP_Equal.mono_l k
  unfold netcidr_IP_Equal.f
  repeat' first
      | (with_reducible exact ih0 _ _ _)
      | (with_reducible exact ih1 _ _ _)
      | (with_reducible exact LeO.refl _)
      | (with_reducible exact LeO.none _)
      | (with_reducible refine LeO.ite ?_ ?_)
      | (with_reducible refine LeO.bind ?_ (fun _ => ?_))
      | exact ih0 _ _ _
      | exact ih1 _ _ _
      | exact LeO.none _
      | refine LeO.ite ?_ ?_
      | refine LeO.bind ?_ (fun _ => ?_)
def netcidr_IP_Equal.T4 : Bool × List (List Nat × List Nat) := (true, [([], []), ([0], [0]), ([], []), ([1, 2, 2], [1, 2]), ([3, 3], [3]), ([4], [4]), ([4], [4]), ([6, 4], [4, 6]), ([5, 7, 4, 4], [4, 5, 7]), ([4, 8], [4, 8]), ([9, 8, 0, 1, 2, 3, 4, 5, 6, 7, 8, 9], [9])])
def netcidr_IP_Equal.B4 : List Nat := [0, 1, 0, 7, 15, 31, 31, 95, 255, 511, 1023]
theorem netcidr_IP_Equal.tab4 : rtab .any (opsOf Tryz.f90 4) = netcidr_IP_Equal.T4 := by kernel_rfl
theorem netcidr_IP_Equal.bits4 : waitsOk netcidr_IP_Equal.T4.2 netcidr_IP_Equal.B4 = true := by kernel_rfl
def netcidr_IP_Equal.T6 : Bool × List (List Nat × List Nat) := (true, [([], []), ([0], [0]), ([], []), ([1, 2, 2], [1, 2]), ([3, 3], [3]), ([4], [4]), ([5, 4], [4, 5]), ([4], [4]), ([6, 7, 4, 4], [4, 6, 7]), ([4, 8], [4, 8]), ([9, 8, 0, 1, 2, 3, 4, 5, 6, 7, 8, 9], [9])])
def netcidr_IP_Equal.B6 : List Nat := [0, 1, 0, 7, 15, 31, 63, 31, 255, 511, 1023]
theorem netcidr_IP_Equal.tab6 : rtab .any (opsOf Tryz.f90 6) = netcidr_IP_Equal.T6 := by kernel_rfl
theorem netcidr_IP_Equal.bits6 : waitsOk netcidr_IP_Equal.T6.2 netcidr_IP_Equal.B6 = true := by kernel_rfl
set_option maxHeartbeats 8000000 in
set_option maxRecDepth 100000 in
theorem netcidr_IP_Equal.calls (k : Nat) (A0 : Option Addr) (c0 : Nat) (l0 : List Int) (A1 : Option Addr) (c1 : Nat) (l1 : List Int) (r : Bool) (w : World) (hr0 : Kd.C (Kd.int .u8) w A0 l0.length l0) (hc0 : l0.length ≤ c0) (hr1 : Kd.C (Kd.int .u8) w A1 l1.length l1) (hc1 : l1.length ≤ c1) (h : netcidr_IP_Equal.f k l0 l1 = some r) :
    Calls Tryz.prog 90 #[.slice A0 l0.length c0, .slice A1 l1.length c1] w fun e w' => e = .returned (.bool r) ∧ Below w.heap.size w w' := by
  have HR0 := Aside0.mk hr0
  have HC0 := Aside0.mk hc0
  clear hr0 hc0
  have HR1 := Aside0.mk hr1
  have HC1 := Aside0.mk hc1
  clear hr1 hc1
  have HB := Aside0.mk (Below.refl w.heap.size w)
  have H : (if (l0.length : Int) = (l1.length : Int) then ((bytes_Equal.f l0 l1).bind fun t254 => (some t254)) else (if (l0.length : Int) = 4 then (netcidr_IP_Equal.j0 k l0 l1 ((l1.length : Int) == 16)) else (netcidr_IP_Equal.j0 k l0 l1 false))) = some r := h
  clear h
  by_cases c3 : (l0.length : Int) = (l1.length : Int)
  · rw [if_pos c3] at H
    have c3b0 : ((l0.length : Int) == (l1.length : Int)) = true := beq_iff_eq.mpr c3
    have c3b1 : ((l0.length : Int) != (l1.length : Int)) = false := bne_eq_false_iff_eq.mpr c3
    have c3b2 : (l0.length == l1.length) = true := by first | simpa using c3 | (simp at c3 ⊢; omega)
    clear c3
    replace H := Option.bind_eq_some_iff.mp H
    obtain ⟨t254, A40, H⟩ := H
    replace H : (some t254) = some r := H
    have A4 := Aside0.mk A40
    clear A40
    obtain rfl := Option.some.inj H
    go_enter Tryz.func90, Tryz.ntmps90
    go_wp2_with (first | ((with_reducible refine gate_callee (f := 109) rfl ?_); refine goesL_ (some 12) rfl rfl Tryz.func109 (by kernel_rfl) rfl #[.slice A0 l0.length c0, .slice A1 l1.length c1] rfl (by (try simp only [List.map_toArray, List.map_cons, List.map_nil]); first | done | rfl | (simp only [List.length_drop, List.length_take]; rfl)) ?_; (with_reducible refine (bytes_Equal.calls _ _ l0 _ _ l1 t254 _ ?side1 ?side2 ?side3 ?side4 A4.out).mono ?_); (case side1 => repeat (first | exact HR0.out | (with_reducible refine Kd.C_alloc ?_ _) | (with_reducible refine Kd.C_drewN ?_ _) | (with_reducible refine Kd.C_drew ?_))); (case side2 => exact HC0.out); (case side3 => repeat (first | exact HR1.out | (with_reducible refine Kd.C_alloc ?_ _) | (with_reducible refine Kd.C_drewN ?_ _) | (with_reducible refine Kd.C_drew ?_))); (case side4 => exact HC1.out); rintro e w' ⟨rfl, ⟨nd, rfl⟩⟩; refine ⟨_, rfl, ?_⟩))
    go_ret
    exact ⟨by first | rfl | (simp [errW_none, errW_some] <;> rfl) | (simp [*, errW_none, errW_some] <;> rfl), by repeat (first | (with_reducible first | exact HB.out | apply below_alloc | apply pw_below_drewN | apply below_drew1) | exact HB.out)⟩
  · rw [if_neg c3] at H
    have c3b0 : ((l0.length : Int) == (l1.length : Int)) = false := beq_eq_false_iff_ne.mpr c3
    have c3b1 : ((l0.length : Int) != (l1.length : Int)) = true := bne_iff_ne.mpr c3
    have c3b2 : (l0.length == l1.length) = false := by first | simpa using c3 | (simp at c3 ⊢; omega)
    have HC5 := Aside0.mk H
    clear H
    go_enter Tryz.func90, Tryz.ntmps90
    go_upto_region 3 with (fail)
    go_cut [20] (fun v20 wc => ∃ (kq : Nat) (x20_4 : Bool), v20 = .bool x20_4 ∧ Aside0 (netcidr_IP_Equal.j0 kq l0 l1 x20_4 = some r) ∧ Aside0 (kq ≤ k) ∧ Aside0 (Below w.heap.size w wc))
    case first =>
      have H := HC5.out
      clear HC5
      by_cases c6 : (l0.length : Int) = 4
      · rw [if_pos c6] at H
        have c6b0 : ((l0.length : Int) == 4) = true := beq_iff_eq.mpr c6
        have c6b1 : ((l0.length : Int) != 4) = false := bne_eq_false_iff_eq.mpr c6
        clear c6
        (first | rw [c6b0] | (simp only [i64_w, i32_w]; rw [c6b0]) | skip)
        have H' := Aside0.mk H
        clear H
        go_wp2
        go_meet
        case rel => exact ⟨_, (((l1.length : Int) == 16)), (by first | rfl | (simp; done) | (simp [*]; done)), H', ⟨by first | omega | exact Nat.le_refl _⟩, ⟨by repeat (first | (with_reducible first | exact HB.out | apply below_alloc | apply pw_below_drewN | apply below_drew1) | exact HB.out)⟩⟩
      · rw [if_neg c6] at H
        have c6b0 : ((l0.length : Int) == 4) = false := beq_eq_false_iff_ne.mpr c6
        have c6b1 : ((l0.length : Int) != 4) = true := bne_iff_ne.mpr c6
        (first | rw [c6b0] | (simp only [i64_w, i32_w]; rw [c6b0]) | skip)
        have H' := Aside0.mk H
        clear H
        go_wp2
        go_meet
        case rel => exact ⟨_, (false), (by first | rfl | (simp; done) | (simp [*]; done)), H', ⟨by first | omega | exact Nat.le_refl _⟩, ⟨by repeat (first | (with_reducible first | exact HB.out | apply below_alloc | apply pw_below_drewN | apply below_drew1) | exact HB.out)⟩⟩
    case rest =>
      clear HC5
      try clear c1
      try clear p2
      try clear c3
      try clear c3b0
      try clear c3b1
      try clear c3b2
      try clear c6
      try clear c6b0
      try clear c6b1
      obtain ⟨kq, x20_4, rfl, HA, HJ4, HB⟩ := hcut
      cases kq with
      | zero => exact absurd HA.out (by simp [netcidr_IP_Equal.j0])
      | succ kj4 =>
        have H := HA.out
        clear HA
        simp only [netcidr_IP_Equal.j0] at H
        by_cases c7 : x20_4 = true
        · subst c7
          have H1 : (if 0 ≤ 12 then (if 12 ≤ (l1.length : Int) then ((netcidr_v4InV6Prefix.f).bind fun t256 => ((bytes_Equal.f ((l1.take 12).drop 0) t256).bind fun t259 => (if t259 = true then ((bytes_Equal.f l0 (l1.drop 12)).bind fun t261 => (some t261)) else (some false)))) else (none)) else (none)) = some r := by rw [if_pos rfl] at H; exact H
          clear H
          have H := H1
          clear H1
          by_cases c8 : 0 ≤ 12
          · rw [if_pos c8] at H
            have c8b0 := eq_true c8
            have c8b1 : decide (0 ≤ 12) = true := decide_eq_true c8
            clear c8
            by_cases c9 : 12 ≤ (l1.length : Int)
            · rw [if_pos c9] at H
              have c9b0 := eq_true c9
              have c9b1 : decide (12 ≤ (l1.length : Int)) = true := decide_eq_true c9
              clear c9
              replace H := Option.bind_eq_some_iff.mp H
              obtain ⟨t256, A100, H⟩ := H
              replace H : ((bytes_Equal.f ((l1.take 12).drop 0) t256).bind fun t259 => (if t259 = true then ((bytes_Equal.f l0 (l1.drop 12)).bind fun t261 => (some t261)) else (some false))) = some r := H
              have A10 := Aside0.mk A100
              clear A100
              replace H := Option.bind_eq_some_iff.mp H
              obtain ⟨t259, A110, H⟩ := H
              replace H : (if t259 = true then ((bytes_Equal.f l0 (l1.drop 12)).bind fun t261 => (some t261)) else (some false)) = some r := H
              have A11 := Aside0.mk A110
              clear A110
              by_cases c12 : t259 = true
              · subst c12
                have H1 : ((bytes_Equal.f l0 (l1.drop 12)).bind fun t261 => (some t261)) = some r := by rw [if_pos rfl] at H; exact H
                clear H
                have H := H1
                clear H1
                have c13b0 := eq_true (of_decide_eq_true (by first | (with_reducible assumption) | assumption) : 12 ≤ (l1.length : Int))
                replace H := Option.bind_eq_some_iff.mp H
                obtain ⟨t261, A140, H⟩ := H
                replace H : (some t261) = some r := H
                have A14 := Aside0.mk A140
                clear A140
                obtain rfl := Option.some.inj H
                try go_wp2
                have n0_ := Aside0.mk (below_drew1 HB.out)
                clear HB
                have HB := n0_
                clear n0_
                obtain ⟨i016, hi016, _, hsz16, _⟩ := info_parts info5
                obtain ⟨A16, hcut16, hA16, hC16⟩ := print_mid_of (P := Tryz.prog) (Value.int .u8) 0 80 5 .i64 .i64 Tryz.underlying80 hi016 hsz16 A1 c1 l1 0 12 (by omega) (by first | omega | exact of_decide_eq_true (by first | (with_reducible assumption) | assumption)) (of_decide_eq_true (by first | (with_reducible assumption) | assumption)) HC1.out
                have HR255 := Aside0.mk (Kd.C_of_reads (h1 := fun _ => rfl) (hA16 _ (Kd.reads_of_C HR1.out)))
                have HC255 := Aside0.mk hC16
                clear hA16 hC16 hi016 hsz16
                refine start_ (n := 11) (S := fun w' => True) (ds := []) #[false, false, false, false, false, false, false, false, false, false, false] (by kernel_rfl) rfl rfl trivial (fun hHeld => ?_); refine with_tabW netcidr_IP_Equal.tab4 netcidr_IP_Equal.bits4 (fun HT_ HW_ => ?_)
                generalize wc.drew = w15 at HB HR255 hHeld ⊢
                refine pure_ (i := 0) (N := some 21) (v := ?_) (a' := ?_) #[true, false, false, false, false, false, false, false, false, false, false] rfl rfl (any_of HT_.out (by kernel_rfl)) (fun _ _ _ h => h) (Or.inl ⟨by rfl, ?_⟩) ?_ ?_
                rotate_left
                · intro w'
                  go_simp
                  with_reducible rfl
                rotate_left
                · simp only [Act.put, List.setIfInBounds_toArray, List.set_cons_zero, List.set_cons_succ, i64_w, i32_w]
                  rfl
                refine pure_ (i := 1) (N := some 22) (v := ?_) (a' := ?_) #[true, true, false, false, false, false, false, false, false, false, false] rfl rfl (any_of HT_.out (by kernel_rfl)) (fun _ _ _ h => h) (Or.inl ⟨by rfl, ?_⟩) ?_ ?_
                rotate_left
                · intro w'
                  go_simp
                  with_reducible rfl
                rotate_left
                · simp only [Act.put, List.setIfInBounds_toArray, List.set_cons_zero, List.set_cons_succ, i64_w, i32_w]
                  rfl
                refine one_ (i := 2) (N := some 23) #[true, true, true, false, false, false, false, false, false, false, false] rfl rfl (one_of HT_.out (by kernel_rfl)) (by decide) (fun K hK => ?_)
                refine goes_ Tryz.func110 (by kernel_rfl) rfl #[] (by rfl) rfl rfl (by (try simp only [List.map_toArray, List.map_cons, List.map_nil]); first | done | rfl | (simp only [List.length_drop, List.length_take]; rfl)) ?_
                with_reducible refine (netcidr_v4InV6Prefix.calls  t256 _ A10.out).mono ?_
                rintro e w17 ⟨v257, rfl, ho0, hb⟩
                refine ⟨_, rfl, ?_⟩
                have n0_ := Aside0.mk (Kd.R_lower ho0 (below_size (by repeat (first | (with_reducible first | exact HB.out | apply below_alloc | apply pw_below_drewN | apply below_drew1) | exact HB.out))))
                have n1_ := Aside0.mk (below_step (by repeat (first | (with_reducible first | exact HB.out | apply below_alloc | apply pw_below_drewN | apply below_drew1) | exact HB.out)) hb)
                clear HB
                have HO258 := n0_
                have HB := n1_
                clear n0_ n1_
                (try clear hb)
                (try clear hb2)
                (try clear hk)
                (try clear hi)
                (try clear ho0)
                obtain ⟨Ao18, co18, eo18⟩ := Kd.R_slice HO258.out
                (first | subst eo18 | (injection eo18 with f1_ f2_ f3_; have f4_ := f1_.symm; have f5_ := f3_.symm; clear f1_ f2_ f3_; subst f4_; subst f5_))
                refine hK.out _ _ trivial (fun hHeld => ?_)
                clear hK K
                refine norm_ (a' := ?_) ?_ ?_
                rotate_left
                · show Act.put _ (some 23) _ = _
                  simp only [Act.put, List.setIfInBounds_toArray, List.set_cons_zero, List.set_cons_succ, i64_w, i32_w]
                  rfl
                refine one_ (i := 3) (N := some 24) #[true, true, true, true, false, false, false, false, false, false, false] rfl rfl (one_of HT_.out (by kernel_rfl)) (by decide) (fun K hK => ?_)
                refine goes_ Tryz.func109 (by kernel_rfl) rfl #[.slice A16 ((l1.take 12).drop 0).length (c1 - 0), .slice Ao18 t256.length co18] (by rfl) rfl rfl (by (try simp only [List.map_toArray, List.map_cons, List.map_nil]); first | done | (rw [show ((l1.take 12).drop 0).length = (12 - 0) from (by rw [List.length_drop, List.length_take]; have h_ : (12 : Int) ≤ (l1.length : Int) := of_decide_eq_true (by first | (with_reducible assumption) | assumption); omega)] <;> rfl) | rfl | (simp only [List.length_drop, List.length_take]; rfl)) ?_
                with_reducible refine (bytes_Equal.calls _ _ ((l1.take 12).drop 0) _ _ t256 true _ ?side1 ?side2 ?side3 ?side4 A11.out).mono ?_
                (case side1 => repeat (first | exact (Kd.C_below HR255.out HB.out) | (with_reducible refine Kd.C_alloc ?_ _) | (with_reducible refine Kd.C_drewN ?_ _) | (with_reducible refine Kd.C_drew ?_)))
                (case side2 => exact HC255.out)
                (case side3 => repeat (first | exact (Kd.R_reads' HO258.out).2.2 | (with_reducible refine Kd.C_alloc ?_ _) | (with_reducible refine Kd.C_drewN ?_ _) | (with_reducible refine Kd.C_drew ?_)))
                (case side4 => exact (Kd.R_reads' HO258.out).2.1)
                rintro e w' ⟨rfl, ⟨nd, rfl⟩⟩
                refine ⟨_, rfl, ?_⟩
                obtain ⟨i019, hi019, _, hsz19, _⟩ := info_parts info5
                obtain ⟨A19, hcut19, hA19, hC19⟩ := print_drop_of (P := Tryz.prog) (Value.int .u8) 0 80 5 .i64 Tryz.underlying80 hi019 hsz19 A1 c1 l1 12 (by omega) (of_decide_eq_true (by first | (with_reducible assumption) | assumption)) HC1.out
                have HR260 := Aside0.mk (Kd.C_of_reads (h1 := fun _ => rfl) (hA19 _ (Kd.reads_of_C HR1.out)))
                have HC260 := Aside0.mk hC19
                clear hA19 hC19 hi019 hsz19
                refine hK.out _ _ trivial (fun hHeld => ?_)
                clear hK K
                refine norm_ (a' := ?_) ?_ ?_
                rotate_left
                · show Act.put _ (some 24) _ = _
                  simp only [Act.put, List.setIfInBounds_toArray, List.set_cons_zero, List.set_cons_succ, i64_w, i32_w]
                  rfl
                refine pure_ (i := 4) (N := some 25) (v := ?_) (a' := ?_) #[true, true, true, true, true, false, false, false, false, false, false] rfl rfl (any_of HT_.out (by kernel_rfl)) (fun _ _ _ h => h) (Or.inl ⟨by rfl, ?_⟩) ?_ ?_
                rotate_left
                · intro w'
                  go_simp
                  with_reducible rfl
                rotate_left
                · simp only [Act.put, List.setIfInBounds_toArray, List.set_cons_zero, List.set_cons_succ, i64_w, i32_w]
                  rfl
                refine pure_ (i := 5) (N := some 26) (v := ?_) (a' := ?_) #[true, true, true, true, true, true, false, false, false, false, false] rfl rfl (any_of HT_.out (by kernel_rfl)) (fun _ _ _ h => h) (Or.inl ⟨by rfl, ?_⟩) ?_ ?_
                rotate_left
                · intro w'
                  go_simp
                  with_reducible rfl
                rotate_left
                · simp only [Act.put, List.setIfInBounds_toArray, List.set_cons_zero, List.set_cons_succ, i64_w, i32_w]
                  rfl
                refine pure_ (i := 6) (N := some 27) (v := ?_) (a' := ?_) #[true, true, true, true, true, true, true, false, false, false, false] rfl rfl (any_of HT_.out (by kernel_rfl)) (fun _ _ _ h => h) (Or.inl ⟨by rfl, ?_⟩) ?_ ?_
                rotate_left
                · intro w'
                  go_simp
                  with_reducible rfl
                rotate_left
                · simp only [Act.put, List.setIfInBounds_toArray, List.set_cons_zero, List.set_cons_succ, i64_w, i32_w]
                  rfl
                refine pure_ (i := 7) (N := some 28) (v := ?_) (a' := ?_) #[true, true, true, true, true, true, true, true, false, false, false] rfl rfl (any_of HT_.out (by kernel_rfl)) (fun _ _ _ h => h) (Or.inl ⟨by rfl, ?_⟩) ?_ ?_
                rotate_left
                · intro w'
                  go_simp
                  with_reducible rfl
                rotate_left
                · simp only [Act.put, List.setIfInBounds_toArray, List.set_cons_zero, List.set_cons_succ, i64_w, i32_w]
                  rfl
                refine one_ (i := 8) (N := some 29) #[true, true, true, true, true, true, true, true, true, false, false] rfl rfl (one_of HT_.out (by kernel_rfl)) (by decide) (fun K hK => ?_)
                refine goes_ Tryz.func109 (by kernel_rfl) rfl #[.slice A0 l0.length c0, .slice A19 (l1.drop 12).length (c1 - 12)] (by rfl) rfl rfl (by (try simp only [List.map_toArray, List.map_cons, List.map_nil]); first | done | (rw [show (l1.drop 12).length = (l1.length - 12) from List.length_drop] <;> rfl) | rfl | (simp only [List.length_drop, List.length_take]; rfl)) ?_
                with_reducible refine (bytes_Equal.calls _ _ l0 _ _ (l1.drop 12) t261 _ ?side1 ?side2 ?side3 ?side4 A14.out).mono ?_
                (case side1 => repeat (first | exact (Kd.C_below HR0.out (by repeat (first | (with_reducible first | exact HB.out | apply below_alloc | apply pw_below_drewN | apply below_drew1) | exact HB.out))) | (with_reducible refine Kd.C_alloc ?_ _) | (with_reducible refine Kd.C_drewN ?_ _) | (with_reducible refine Kd.C_drew ?_)))
                (case side2 => exact HC0.out)
                (case side3 => repeat (first | exact (Kd.C_below HR260.out (by repeat (first | (with_reducible first | exact HB.out | apply below_alloc | apply pw_below_drewN | apply below_drew1) | exact HB.out))) | (with_reducible refine Kd.C_alloc ?_ _) | (with_reducible refine Kd.C_drewN ?_ _) | (with_reducible refine Kd.C_drew ?_)))
                (case side4 => exact HC260.out)
                rintro e w' ⟨rfl, ⟨nd, rfl⟩⟩
                refine ⟨_, rfl, ?_⟩
                refine hK.out _ _ trivial (fun hHeld => ?_)
                clear hK K
                refine norm_ (a' := ?_) ?_ ?_
                rotate_left
                · show Act.put _ (some 29) _ = _
                  simp only [Act.put, List.setIfInBounds_toArray, List.set_cons_zero, List.set_cons_succ, i64_w, i32_w]
                  rfl
                refine pure_ (i := 9) (N := some 30) (v := ?_) (a' := ?_) #[true, true, true, true, true, true, true, true, true, true, false] rfl rfl (any_of HT_.out (by kernel_rfl)) (fun _ _ _ h => h) (Or.inl ⟨by rfl, ?_⟩) ?_ ?_
                rotate_left
                · intro w'
                  go_simp
                  with_reducible rfl
                rotate_left
                · simp only [Act.put, List.setIfInBounds_toArray, List.set_cons_zero, List.set_cons_succ, i64_w, i32_w]
                  rfl
                refine pure_ (i := 10) (N := some 4) (v := ?_) (a' := ?_) #[true, true, true, true, true, true, true, true, true, true, true] rfl rfl (any_of HT_.out (by kernel_rfl)) (fun _ _ _ h => h) (Or.inl ⟨by rfl, ?_⟩) ?_ ?_
                rotate_left
                · intro w'
                  go_simp
                  with_reducible rfl
                rotate_left
                · simp only [Act.put, List.setIfInBounds_toArray, List.set_cons_zero, List.set_cons_succ, i64_w, i32_w]
                  rfl
                refine done_ (done_of HT_.out (by kernel_rfl)) ?_
                try go_wp2
                go_ret
                exact ⟨by first | rfl | (simp [errW_none, errW_some] <;> rfl) | (simp [*, errW_none, errW_some] <;> rfl), by repeat (first | (with_reducible first | exact HB.out | apply below_alloc | apply pw_below_drewN | apply below_drew1) | exact HB.out)⟩
              · replace c12 := Bool.eq_false_iff.mpr c12
                subst c12
                have H1 : (some false) = some r := by rw [if_neg (show ¬ (false = true) by decide)] at H; exact H
                clear H
                have H := H1
                clear H1
                obtain rfl := Option.some.inj H
                try go_wp2
                have n0_ := Aside0.mk (below_drew1 HB.out)
                clear HB
                have HB := n0_
                clear n0_
                obtain ⟨i021, hi021, _, hsz21, _⟩ := info_parts info5
                obtain ⟨A21, hcut21, hA21, hC21⟩ := print_mid_of (P := Tryz.prog) (Value.int .u8) 0 80 5 .i64 .i64 Tryz.underlying80 hi021 hsz21 A1 c1 l1 0 12 (by omega) (by first | omega | exact of_decide_eq_true (by first | (with_reducible assumption) | assumption)) (of_decide_eq_true (by first | (with_reducible assumption) | assumption)) HC1.out
                have HR255 := Aside0.mk (Kd.C_of_reads (h1 := fun _ => rfl) (hA21 _ (Kd.reads_of_C HR1.out)))
                have HC255 := Aside0.mk hC21
                clear hA21 hC21 hi021 hsz21
                refine start_ (n := 11) (S := fun w' => True) (ds := []) #[false, false, false, false, false, false, false, false, false, false, false] (by kernel_rfl) rfl rfl trivial (fun hHeld => ?_); refine with_tabW netcidr_IP_Equal.tab4 netcidr_IP_Equal.bits4 (fun HT_ HW_ => ?_)
                generalize wc.drew = w20 at HB HR255 hHeld ⊢
                refine pure_ (i := 0) (N := some 21) (v := ?_) (a' := ?_) #[true, false, false, false, false, false, false, false, false, false, false] rfl rfl (any_of HT_.out (by kernel_rfl)) (fun _ _ _ h => h) (Or.inl ⟨by rfl, ?_⟩) ?_ ?_
                rotate_left
                · intro w'
                  go_simp
                  with_reducible rfl
                rotate_left
                · simp only [Act.put, List.setIfInBounds_toArray, List.set_cons_zero, List.set_cons_succ, i64_w, i32_w]
                  rfl
                refine pure_ (i := 1) (N := some 22) (v := ?_) (a' := ?_) #[true, true, false, false, false, false, false, false, false, false, false] rfl rfl (any_of HT_.out (by kernel_rfl)) (fun _ _ _ h => h) (Or.inl ⟨by rfl, ?_⟩) ?_ ?_
                rotate_left
                · intro w'
                  go_simp
                  with_reducible rfl
                rotate_left
                · simp only [Act.put, List.setIfInBounds_toArray, List.set_cons_zero, List.set_cons_succ, i64_w, i32_w]
                  rfl
                refine one_ (i := 2) (N := some 23) #[true, true, true, false, false, false, false, false, false, false, false] rfl rfl (one_of HT_.out (by kernel_rfl)) (by decide) (fun K hK => ?_)
                refine goes_ Tryz.func110 (by kernel_rfl) rfl #[] (by rfl) rfl rfl (by (try simp only [List.map_toArray, List.map_cons, List.map_nil]); first | done | rfl | (simp only [List.length_drop, List.length_take]; rfl)) ?_
                with_reducible refine (netcidr_v4InV6Prefix.calls  t256 _ A10.out).mono ?_
                rintro e w22 ⟨v257, rfl, ho0, hb⟩
                refine ⟨_, rfl, ?_⟩
                have n0_ := Aside0.mk (Kd.R_lower ho0 (below_size (by repeat (first | (with_reducible first | exact HB.out | apply below_alloc | apply pw_below_drewN | apply below_drew1) | exact HB.out))))
                have n1_ := Aside0.mk (below_step (by repeat (first | (with_reducible first | exact HB.out | apply below_alloc | apply pw_below_drewN | apply below_drew1) | exact HB.out)) hb)
                clear HB
                have HO258 := n0_
                have HB := n1_
                clear n0_ n1_
                (try clear hb)
                (try clear hb2)
                (try clear hk)
                (try clear hi)
                (try clear ho0)
                obtain ⟨Ao23, co23, eo23⟩ := Kd.R_slice HO258.out
                (first | subst eo23 | (injection eo23 with f1_ f2_ f3_; have f4_ := f1_.symm; have f5_ := f3_.symm; clear f1_ f2_ f3_; subst f4_; subst f5_))
                refine hK.out _ _ trivial (fun hHeld => ?_)
                clear hK K
                refine norm_ (a' := ?_) ?_ ?_
                rotate_left
                · show Act.put _ (some 23) _ = _
                  simp only [Act.put, List.setIfInBounds_toArray, List.set_cons_zero, List.set_cons_succ, i64_w, i32_w]
                  rfl
                refine one_ (i := 3) (N := some 24) #[true, true, true, true, false, false, false, false, false, false, false] rfl rfl (one_of HT_.out (by kernel_rfl)) (by decide) (fun K hK => ?_)
                refine goes_ Tryz.func109 (by kernel_rfl) rfl #[.slice A21 ((l1.take 12).drop 0).length (c1 - 0), .slice Ao23 t256.length co23] (by rfl) rfl rfl (by (try simp only [List.map_toArray, List.map_cons, List.map_nil]); first | done | (rw [show ((l1.take 12).drop 0).length = (12 - 0) from (by rw [List.length_drop, List.length_take]; have h_ : (12 : Int) ≤ (l1.length : Int) := of_decide_eq_true (by first | (with_reducible assumption) | assumption); omega)] <;> rfl) | rfl | (simp only [List.length_drop, List.length_take]; rfl)) ?_
                with_reducible refine (bytes_Equal.calls _ _ ((l1.take 12).drop 0) _ _ t256 false _ ?side1 ?side2 ?side3 ?side4 A11.out).mono ?_
                (case side1 => repeat (first | exact (Kd.C_below HR255.out HB.out) | (with_reducible refine Kd.C_alloc ?_ _) | (with_reducible refine Kd.C_drewN ?_ _) | (with_reducible refine Kd.C_drew ?_)))
                (case side2 => exact HC255.out)
                (case side3 => repeat (first | exact (Kd.R_reads' HO258.out).2.2 | (with_reducible refine Kd.C_alloc ?_ _) | (with_reducible refine Kd.C_drewN ?_ _) | (with_reducible refine Kd.C_drew ?_)))
                (case side4 => exact (Kd.R_reads' HO258.out).2.1)
                rintro e w' ⟨rfl, ⟨nd, rfl⟩⟩
                refine ⟨_, rfl, ?_⟩
                refine hK.out _ _ trivial (fun hHeld => ?_)
                clear hK K
                refine norm_ (a' := ?_) ?_ ?_
                rotate_left
                · show Act.put _ (some 24) _ = _
                  simp only [Act.put, List.setIfInBounds_toArray, List.set_cons_zero, List.set_cons_succ, i64_w, i32_w]
                  rfl
                refine pure_ (i := 4) (N := some 25) (v := ?_) (a' := ?_) #[true, true, true, true, true, false, false, false, false, false, false] rfl rfl (any_of HT_.out (by kernel_rfl)) (fun _ _ _ h => h) (Or.inl ⟨by rfl, ?_⟩) ?_ ?_
                rotate_left
                · intro w'
                  go_simp
                  with_reducible rfl
                rotate_left
                · simp only [Act.put, List.setIfInBounds_toArray, List.set_cons_zero, List.set_cons_succ, i64_w, i32_w]
                  rfl
                refine pure_ (i := 5) (N := some 26) (v := undef) (a' := ?_) #[true, true, true, true, true, true, false, false, false, false, false] rfl rfl (any_of HT_.out (by kernel_rfl)) (fun _ _ _ h => h) (Or.inr ⟨by rfl, rfl⟩) ?_ ?_
                rotate_left
                · simp only [Act.put, List.setIfInBounds_toArray, List.set_cons_zero, List.set_cons_succ, i64_w, i32_w]
                  rfl
                refine pure_ (i := 6) (N := some 27) (v := undef) (a' := ?_) #[true, true, true, true, true, true, true, false, false, false, false] rfl rfl (any_of HT_.out (by kernel_rfl)) (fun _ _ _ h => h) (Or.inr ⟨by rfl, rfl⟩) ?_ ?_
                rotate_left
                · simp only [Act.put, List.setIfInBounds_toArray, List.set_cons_zero, List.set_cons_succ, i64_w, i32_w]
                  rfl
                refine pure_ (i := 7) (N := some 28) (v := undef) (a' := ?_) #[true, true, true, true, true, true, true, true, false, false, false] rfl rfl (any_of HT_.out (by kernel_rfl)) (fun _ _ _ h => h) (Or.inr ⟨by rfl, rfl⟩) ?_ ?_
                rotate_left
                · simp only [Act.put, List.setIfInBounds_toArray, List.set_cons_zero, List.set_cons_succ, i64_w, i32_w]
                  rfl
                refine pure_ (i := 8) (N := some 29) (v := undef) (a' := ?_) #[true, true, true, true, true, true, true, true, true, false, false] rfl rfl (any_of HT_.out (by kernel_rfl)) (fun _ _ _ h => h) (Or.inr ⟨by rfl, rfl⟩) ?_ ?_
                rotate_left
                · simp only [Act.put, List.setIfInBounds_toArray, List.set_cons_zero, List.set_cons_succ, i64_w, i32_w]
                  rfl
                refine pure_ (i := 9) (N := some 30) (v := ?_) (a' := ?_) #[true, true, true, true, true, true, true, true, true, true, false] rfl rfl (any_of HT_.out (by kernel_rfl)) (fun _ _ _ h => h) (Or.inl ⟨by rfl, ?_⟩) ?_ ?_
                rotate_left
                · intro w'
                  go_simp
                  with_reducible rfl
                rotate_left
                · simp only [Act.put, List.setIfInBounds_toArray, List.set_cons_zero, List.set_cons_succ, i64_w, i32_w]
                  rfl
                refine pure_ (i := 10) (N := some 4) (v := ?_) (a' := ?_) #[true, true, true, true, true, true, true, true, true, true, true] rfl rfl (any_of HT_.out (by kernel_rfl)) (fun _ _ _ h => h) (Or.inl ⟨by rfl, ?_⟩) ?_ ?_
                rotate_left
                · intro w'
                  go_simp
                  with_reducible rfl
                rotate_left
                · simp only [Act.put, List.setIfInBounds_toArray, List.set_cons_zero, List.set_cons_succ, i64_w, i32_w]
                  rfl
                refine done_ (done_of HT_.out (by kernel_rfl)) ?_
                try go_wp2
                go_ret
                exact ⟨by first | rfl | (simp [errW_none, errW_some] <;> rfl) | (simp [*, errW_none, errW_some] <;> rfl), by repeat (first | (with_reducible first | exact HB.out | apply below_alloc | apply pw_below_drewN | apply below_drew1) | exact HB.out)⟩
            · rw [if_neg c9] at H
              exact absurd H (by simp)
          · rw [if_neg c8] at H
            exact absurd H (by simp)
        · replace c7 := Bool.eq_false_iff.mpr c7
          subst c7
          have H1 : (if (l0.length : Int) = 16 then (netcidr_IP_Equal.j1 kj4 l0 l1 ((l1.length : Int) == 4)) else (netcidr_IP_Equal.j1 kj4 l0 l1 false)) = some r := by rw [if_neg (show ¬ (false = true) by decide)] at H; exact H
          clear H
          have H := H1
          clear H1
          have HC24 := Aside0.mk H
          clear H
          go_upto_region 5 with (fail)
          go_cut [38] (fun v38 wc => ∃ (kq : Nat) (x38_23 : Bool), v38 = .bool x38_23 ∧ Aside0 (netcidr_IP_Equal.j1 kq l0 l1 x38_23 = some r) ∧ Aside0 (kq ≤ kj4) ∧ Aside0 (Below w.heap.size w wc))
          case first =>
            have H := HC24.out
            clear HC24
            by_cases c25 : (l0.length : Int) = 16
            · rw [if_pos c25] at H
              have c25b0 : ((l0.length : Int) == 16) = true := beq_iff_eq.mpr c25
              have c25b1 : ((l0.length : Int) != 16) = false := bne_eq_false_iff_eq.mpr c25
              clear c25
              (first | rw [c25b0] | (simp only [i64_w, i32_w]; rw [c25b0]) | skip)
              have H' := Aside0.mk H
              clear H
              go_wp2
              go_meet
              case rel => exact ⟨_, (((l1.length : Int) == 4)), (by first | rfl | (simp; done) | (simp [*]; done)), H', ⟨by have := HJ4.out; first | omega | exact Nat.le_refl _⟩, ⟨by repeat (first | (with_reducible first | exact HB.out | apply below_alloc | apply pw_below_drewN | apply below_drew1) | exact HB.out)⟩⟩
            · rw [if_neg c25] at H
              have c25b0 : ((l0.length : Int) == 16) = false := beq_eq_false_iff_ne.mpr c25
              have c25b1 : ((l0.length : Int) != 16) = true := bne_iff_ne.mpr c25
              (first | rw [c25b0] | (simp only [i64_w, i32_w]; rw [c25b0]) | skip)
              have H' := Aside0.mk H
              clear H
              go_wp2
              go_meet
              case rel => exact ⟨_, (false), (by first | rfl | (simp; done) | (simp [*]; done)), H', ⟨by have := HJ4.out; first | omega | exact Nat.le_refl _⟩, ⟨by repeat (first | (with_reducible first | exact HB.out | apply below_alloc | apply pw_below_drewN | apply below_drew1) | exact HB.out)⟩⟩
          case rest =>
            clear HC24
            try clear c1
            try clear c2
            try clear p2
            try clear c3
            try clear c3b0
            try clear c3b1
            try clear c3b2
            try clear c6
            try clear c6b0
            try clear c6b1
            try clear c7
            try clear c8
            try clear c8b0
            try clear c8b1
            try clear c9
            try clear c9b0
            try clear c9b1
            try clear c10
            try clear c11
            try clear c12
            try clear c13
            try clear c13b0
            try clear c25
            try clear c25b0
            try clear c25b1
            try clear p2
            obtain ⟨kq, x38_23, rfl, HA, HJ23, HB⟩ := hcut
            cases kq with
            | zero => exact absurd HA.out (by simp [netcidr_IP_Equal.j1])
            | succ kj23 =>
              have H := HA.out
              clear HA
              simp only [netcidr_IP_Equal.j1] at H
              by_cases c26 : x38_23 = true
              · subst c26
                have H1 : (if 0 ≤ 12 then (if 12 ≤ (l0.length : Int) then ((netcidr_v4InV6Prefix.f).bind fun t263 => ((bytes_Equal.f ((l0.take 12).drop 0) t263).bind fun t266 => (if t266 = true then ((bytes_Equal.f (l0.drop 12) l1).bind fun t268 => (some t268)) else (some false)))) else (none)) else (none)) = some r := by rw [if_pos rfl] at H; exact H
                clear H
                have H := H1
                clear H1
                by_cases c27 : 0 ≤ 12
                · rw [if_pos c27] at H
                  have c27b0 := eq_true c27
                  have c27b1 : decide (0 ≤ 12) = true := decide_eq_true c27
                  clear c27
                  by_cases c28 : 12 ≤ (l0.length : Int)
                  · rw [if_pos c28] at H
                    have c28b0 := eq_true c28
                    have c28b1 : decide (12 ≤ (l0.length : Int)) = true := decide_eq_true c28
                    clear c28
                    replace H := Option.bind_eq_some_iff.mp H
                    obtain ⟨t263, A290, H⟩ := H
                    replace H : ((bytes_Equal.f ((l0.take 12).drop 0) t263).bind fun t266 => (if t266 = true then ((bytes_Equal.f (l0.drop 12) l1).bind fun t268 => (some t268)) else (some false))) = some r := H
                    have A29 := Aside0.mk A290
                    clear A290
                    replace H := Option.bind_eq_some_iff.mp H
                    obtain ⟨t266, A300, H⟩ := H
                    replace H : (if t266 = true then ((bytes_Equal.f (l0.drop 12) l1).bind fun t268 => (some t268)) else (some false)) = some r := H
                    have A30 := Aside0.mk A300
                    clear A300
                    by_cases c31 : t266 = true
                    · subst c31
                      have H1 : ((bytes_Equal.f (l0.drop 12) l1).bind fun t268 => (some t268)) = some r := by rw [if_pos rfl] at H; exact H
                      clear H
                      have H := H1
                      clear H1
                      have c32b0 := eq_true (of_decide_eq_true (by first | (with_reducible assumption) | assumption) : 12 ≤ (l0.length : Int))
                      replace H := Option.bind_eq_some_iff.mp H
                      obtain ⟨t268, A330, H⟩ := H
                      replace H : (some t268) = some r := H
                      have A33 := Aside0.mk A330
                      clear A330
                      obtain rfl := Option.some.inj H
                      try go_wp2
                      have n0_ := Aside0.mk (below_drew1 HB.out)
                      clear HB
                      have HB := n0_
                      clear n0_
                      obtain ⟨i035, hi035, _, hsz35, _⟩ := info_parts info5
                      obtain ⟨A35, hcut35, hA35, hC35⟩ := print_mid_of (P := Tryz.prog) (Value.int .u8) 0 80 5 .i64 .i64 Tryz.underlying80 hi035 hsz35 A0 c0 l0 0 12 (by omega) (by first | omega | exact of_decide_eq_true (by first | (with_reducible assumption) | assumption)) (of_decide_eq_true (by first | (with_reducible assumption) | assumption)) HC0.out
                      have HR262 := Aside0.mk (Kd.C_of_reads (h1 := fun _ => rfl) (hA35 _ (Kd.reads_of_C HR0.out)))
                      have HC262 := Aside0.mk hC35
                      clear hA35 hC35 hi035 hsz35
                      refine start_ (n := 11) (S := fun w' => True) (ds := []) #[false, false, false, false, false, false, false, false, false, false, false] (by kernel_rfl) rfl rfl trivial (fun hHeld => ?_); refine with_tabW netcidr_IP_Equal.tab6 netcidr_IP_Equal.bits6 (fun HT_ HW_ => ?_)
                      generalize wc.drew = w34 at HB HR262 hHeld ⊢
                      refine pure_ (i := 0) (N := some 39) (v := ?_) (a' := ?_) #[true, false, false, false, false, false, false, false, false, false, false] rfl rfl (any_of HT_.out (by kernel_rfl)) (fun _ _ _ h => h) (Or.inl ⟨by rfl, ?_⟩) ?_ ?_
                      rotate_left
                      · intro w'
                        go_simp
                        with_reducible rfl
                      rotate_left
                      · simp only [Act.put, List.setIfInBounds_toArray, List.set_cons_zero, List.set_cons_succ, i64_w, i32_w]
                        rfl
                      refine pure_ (i := 1) (N := some 40) (v := ?_) (a' := ?_) #[true, true, false, false, false, false, false, false, false, false, false] rfl rfl (any_of HT_.out (by kernel_rfl)) (fun _ _ _ h => h) (Or.inl ⟨by rfl, ?_⟩) ?_ ?_
                      rotate_left
                      · intro w'
                        go_simp
                        with_reducible rfl
                      rotate_left
                      · simp only [Act.put, List.setIfInBounds_toArray, List.set_cons_zero, List.set_cons_succ, i64_w, i32_w]
                        rfl
                      refine one_ (i := 2) (N := some 41) #[true, true, true, false, false, false, false, false, false, false, false] rfl rfl (one_of HT_.out (by kernel_rfl)) (by decide) (fun K hK => ?_)
                      refine goes_ Tryz.func110 (by kernel_rfl) rfl #[] (by rfl) rfl rfl (by (try simp only [List.map_toArray, List.map_cons, List.map_nil]); first | done | rfl | (simp only [List.length_drop, List.length_take]; rfl)) ?_
                      with_reducible refine (netcidr_v4InV6Prefix.calls  t263 _ A29.out).mono ?_
                      rintro e w36 ⟨v264, rfl, ho0, hb⟩
                      refine ⟨_, rfl, ?_⟩
                      have n0_ := Aside0.mk (Kd.R_lower ho0 (below_size (by repeat (first | (with_reducible first | exact HB.out | apply below_alloc | apply pw_below_drewN | apply below_drew1) | exact HB.out))))
                      have n1_ := Aside0.mk (below_step (by repeat (first | (with_reducible first | exact HB.out | apply below_alloc | apply pw_below_drewN | apply below_drew1) | exact HB.out)) hb)
                      clear HB
                      have HO265 := n0_
                      have HB := n1_
                      clear n0_ n1_
                      (try clear hb)
                      (try clear hb2)
                      (try clear hk)
                      (try clear hi)
                      (try clear ho0)
                      obtain ⟨Ao37, co37, eo37⟩ := Kd.R_slice HO265.out
                      (first | subst eo37 | (injection eo37 with f1_ f2_ f3_; have f4_ := f1_.symm; have f5_ := f3_.symm; clear f1_ f2_ f3_; subst f4_; subst f5_))
                      refine hK.out _ _ trivial (fun hHeld => ?_)
                      clear hK K
                      refine norm_ (a' := ?_) ?_ ?_
                      rotate_left
                      · show Act.put _ (some 41) _ = _
                        simp only [Act.put, List.setIfInBounds_toArray, List.set_cons_zero, List.set_cons_succ, i64_w, i32_w]
                        rfl
                      refine one_ (i := 3) (N := some 42) #[true, true, true, true, false, false, false, false, false, false, false] rfl rfl (one_of HT_.out (by kernel_rfl)) (by decide) (fun K hK => ?_)
                      refine goes_ Tryz.func109 (by kernel_rfl) rfl #[.slice A35 ((l0.take 12).drop 0).length (c0 - 0), .slice Ao37 t263.length co37] (by rfl) rfl rfl (by (try simp only [List.map_toArray, List.map_cons, List.map_nil]); first | done | (rw [show ((l0.take 12).drop 0).length = (12 - 0) from (by rw [List.length_drop, List.length_take]; have h_ : (12 : Int) ≤ (l0.length : Int) := of_decide_eq_true (by first | (with_reducible assumption) | assumption); omega)] <;> rfl) | rfl | (simp only [List.length_drop, List.length_take]; rfl)) ?_
                      with_reducible refine (bytes_Equal.calls _ _ ((l0.take 12).drop 0) _ _ t263 true _ ?side1 ?side2 ?side3 ?side4 A30.out).mono ?_
                      (case side1 => repeat (first | exact (Kd.C_below HR262.out HB.out) | (with_reducible refine Kd.C_alloc ?_ _) | (with_reducible refine Kd.C_drewN ?_ _) | (with_reducible refine Kd.C_drew ?_)))
                      (case side2 => exact HC262.out)
                      (case side3 => repeat (first | exact (Kd.R_reads' HO265.out).2.2 | (with_reducible refine Kd.C_alloc ?_ _) | (with_reducible refine Kd.C_drewN ?_ _) | (with_reducible refine Kd.C_drew ?_)))
                      (case side4 => exact (Kd.R_reads' HO265.out).2.1)
                      rintro e w' ⟨rfl, ⟨nd, rfl⟩⟩
                      refine ⟨_, rfl, ?_⟩
                      obtain ⟨i038, hi038, _, hsz38, _⟩ := info_parts info5
                      obtain ⟨A38, hcut38, hA38, hC38⟩ := print_drop_of (P := Tryz.prog) (Value.int .u8) 0 80 5 .i64 Tryz.underlying80 hi038 hsz38 A0 c0 l0 12 (by omega) (of_decide_eq_true (by first | (with_reducible assumption) | assumption)) HC0.out
                      have HR267 := Aside0.mk (Kd.C_of_reads (h1 := fun _ => rfl) (hA38 _ (Kd.reads_of_C HR0.out)))
                      have HC267 := Aside0.mk hC38
                      clear hA38 hC38 hi038 hsz38
                      refine hK.out _ _ trivial (fun hHeld => ?_)
                      clear hK K
                      refine norm_ (a' := ?_) ?_ ?_
                      rotate_left
                      · show Act.put _ (some 42) _ = _
                        simp only [Act.put, List.setIfInBounds_toArray, List.set_cons_zero, List.set_cons_succ, i64_w, i32_w]
                        rfl
                      refine pure_ (i := 4) (N := some 43) (v := ?_) (a' := ?_) #[true, true, true, true, true, false, false, false, false, false, false] rfl rfl (any_of HT_.out (by kernel_rfl)) (fun _ _ _ h => h) (Or.inl ⟨by rfl, ?_⟩) ?_ ?_
                      rotate_left
                      · intro w'
                        go_simp
                        with_reducible rfl
                      rotate_left
                      · simp only [Act.put, List.setIfInBounds_toArray, List.set_cons_zero, List.set_cons_succ, i64_w, i32_w]
                        rfl
                      refine pure_ (i := 5) (N := some 44) (v := ?_) (a' := ?_) #[true, true, true, true, true, true, false, false, false, false, false] rfl rfl (any_of HT_.out (by kernel_rfl)) (fun _ _ _ h => h) (Or.inl ⟨by rfl, ?_⟩) ?_ ?_
                      rotate_left
                      · intro w'
                        go_simp
                        with_reducible rfl
                      rotate_left
                      · simp only [Act.put, List.setIfInBounds_toArray, List.set_cons_zero, List.set_cons_succ, i64_w, i32_w]
                        rfl
                      refine pure_ (i := 6) (N := some 45) (v := ?_) (a' := ?_) #[true, true, true, true, true, true, true, false, false, false, false] rfl rfl (any_of HT_.out (by kernel_rfl)) (fun _ _ _ h => h) (Or.inl ⟨by rfl, ?_⟩) ?_ ?_
                      rotate_left
                      · intro w'
                        go_simp
                        with_reducible rfl
                      rotate_left
                      · simp only [Act.put, List.setIfInBounds_toArray, List.set_cons_zero, List.set_cons_succ, i64_w, i32_w]
                        rfl
                      refine pure_ (i := 7) (N := some 46) (v := ?_) (a' := ?_) #[true, true, true, true, true, true, true, true, false, false, false] rfl rfl (any_of HT_.out (by kernel_rfl)) (fun _ _ _ h => h) (Or.inl ⟨by rfl, ?_⟩) ?_ ?_
                      rotate_left
                      · intro w'
                        go_simp
                        with_reducible rfl
                      rotate_left
                      · simp only [Act.put, List.setIfInBounds_toArray, List.set_cons_zero, List.set_cons_succ, i64_w, i32_w]
                        rfl
                      refine one_ (i := 8) (N := some 47) #[true, true, true, true, true, true, true, true, true, false, false] rfl rfl (one_of HT_.out (by kernel_rfl)) (by decide) (fun K hK => ?_)
                      refine goes_ Tryz.func109 (by kernel_rfl) rfl #[.slice A38 (l0.drop 12).length (c0 - 12), .slice A1 l1.length c1] (by rfl) rfl rfl (by (try simp only [List.map_toArray, List.map_cons, List.map_nil]); first | done | (rw [show (l0.drop 12).length = (l0.length - 12) from List.length_drop] <;> rfl) | rfl | (simp only [List.length_drop, List.length_take]; rfl)) ?_
                      with_reducible refine (bytes_Equal.calls _ _ (l0.drop 12) _ _ l1 t268 _ ?side1 ?side2 ?side3 ?side4 A33.out).mono ?_
                      (case side1 => repeat (first | exact (Kd.C_below HR267.out (by repeat (first | (with_reducible first | exact HB.out | apply below_alloc | apply pw_below_drewN | apply below_drew1) | exact HB.out))) | (with_reducible refine Kd.C_alloc ?_ _) | (with_reducible refine Kd.C_drewN ?_ _) | (with_reducible refine Kd.C_drew ?_)))
                      (case side2 => exact HC267.out)
                      (case side3 => repeat (first | exact (Kd.C_below HR1.out (by repeat (first | (with_reducible first | exact HB.out | apply below_alloc | apply pw_below_drewN | apply below_drew1) | exact HB.out))) | (with_reducible refine Kd.C_alloc ?_ _) | (with_reducible refine Kd.C_drewN ?_ _) | (with_reducible refine Kd.C_drew ?_)))
                      (case side4 => exact HC1.out)
                      rintro e w' ⟨rfl, ⟨nd, rfl⟩⟩
                      refine ⟨_, rfl, ?_⟩
                      refine hK.out _ _ trivial (fun hHeld => ?_)
                      clear hK K
                      refine norm_ (a' := ?_) ?_ ?_
                      rotate_left
                      · show Act.put _ (some 47) _ = _
                        simp only [Act.put, List.setIfInBounds_toArray, List.set_cons_zero, List.set_cons_succ, i64_w, i32_w]
                        rfl
                      refine pure_ (i := 9) (N := some 48) (v := ?_) (a' := ?_) #[true, true, true, true, true, true, true, true, true, true, false] rfl rfl (any_of HT_.out (by kernel_rfl)) (fun _ _ _ h => h) (Or.inl ⟨by rfl, ?_⟩) ?_ ?_
                      rotate_left
                      · intro w'
                        go_simp
                        with_reducible rfl
                      rotate_left
                      · simp only [Act.put, List.setIfInBounds_toArray, List.set_cons_zero, List.set_cons_succ, i64_w, i32_w]
                        rfl
                      refine pure_ (i := 10) (N := some 4) (v := ?_) (a' := ?_) #[true, true, true, true, true, true, true, true, true, true, true] rfl rfl (any_of HT_.out (by kernel_rfl)) (fun _ _ _ h => h) (Or.inl ⟨by rfl, ?_⟩) ?_ ?_
                      rotate_left
                      · intro w'
                        go_simp
                        with_reducible rfl
                      rotate_left
                      · simp only [Act.put, List.setIfInBounds_toArray, List.set_cons_zero, List.set_cons_succ, i64_w, i32_w]
                        rfl
                      refine done_ (done_of HT_.out (by kernel_rfl)) ?_
                      try go_wp2
                      go_ret
                      exact ⟨by first | rfl | (simp [errW_none, errW_some] <;> rfl) | (simp [*, errW_none, errW_some] <;> rfl), by repeat (first | (with_reducible first | exact HB.out | apply below_alloc | apply pw_below_drewN | apply below_drew1) | exact HB.out)⟩
                    · replace c31 := Bool.eq_false_iff.mpr c31
                      subst c31
                      have H1 : (some false) = some r := by rw [if_neg (show ¬ (false = true) by decide)] at H; exact H
                      clear H
                      have H := H1
                      clear H1
                      obtain rfl := Option.some.inj H
                      try go_wp2
                      have n0_ := Aside0.mk (below_drew1 HB.out)
                      clear HB
                      have HB := n0_
                      clear n0_
                      obtain ⟨i040, hi040, _, hsz40, _⟩ := info_parts info5
                      obtain ⟨A40, hcut40, hA40, hC40⟩ := print_mid_of (P := Tryz.prog) (Value.int .u8) 0 80 5 .i64 .i64 Tryz.underlying80 hi040 hsz40 A0 c0 l0 0 12 (by omega) (by first | omega | exact of_decide_eq_true (by first | (with_reducible assumption) | assumption)) (of_decide_eq_true (by first | (with_reducible assumption) | assumption)) HC0.out
                      have HR262 := Aside0.mk (Kd.C_of_reads (h1 := fun _ => rfl) (hA40 _ (Kd.reads_of_C HR0.out)))
                      have HC262 := Aside0.mk hC40
                      clear hA40 hC40 hi040 hsz40
                      refine start_ (n := 11) (S := fun w' => True) (ds := []) #[false, false, false, false, false, false, false, false, false, false, false] (by kernel_rfl) rfl rfl trivial (fun hHeld => ?_); refine with_tabW netcidr_IP_Equal.tab6 netcidr_IP_Equal.bits6 (fun HT_ HW_ => ?_)
                      generalize wc.drew = w39 at HB HR262 hHeld ⊢
                      refine pure_ (i := 0) (N := some 39) (v := ?_) (a' := ?_) #[true, false, false, false, false, false, false, false, false, false, false] rfl rfl (any_of HT_.out (by kernel_rfl)) (fun _ _ _ h => h) (Or.inl ⟨by rfl, ?_⟩) ?_ ?_
                      rotate_left
                      · intro w'
                        go_simp
                        with_reducible rfl
                      rotate_left
                      · simp only [Act.put, List.setIfInBounds_toArray, List.set_cons_zero, List.set_cons_succ, i64_w, i32_w]
                        rfl
                      refine pure_ (i := 1) (N := some 40) (v := ?_) (a' := ?_) #[true, true, false, false, false, false, false, false, false, false, false] rfl rfl (any_of HT_.out (by kernel_rfl)) (fun _ _ _ h => h) (Or.inl ⟨by rfl, ?_⟩) ?_ ?_
                      rotate_left
                      · intro w'
                        go_simp
                        with_reducible rfl
                      rotate_left
                      · simp only [Act.put, List.setIfInBounds_toArray, List.set_cons_zero, List.set_cons_succ, i64_w, i32_w]
                        rfl
                      refine one_ (i := 2) (N := some 41) #[true, true, true, false, false, false, false, false, false, false, false] rfl rfl (one_of HT_.out (by kernel_rfl)) (by decide) (fun K hK => ?_)
                      refine goes_ Tryz.func110 (by kernel_rfl) rfl #[] (by rfl) rfl rfl (by (try simp only [List.map_toArray, List.map_cons, List.map_nil]); first | done | rfl | (simp only [List.length_drop, List.length_take]; rfl)) ?_
                      with_reducible refine (netcidr_v4InV6Prefix.calls  t263 _ A29.out).mono ?_
                      rintro e w41 ⟨v264, rfl, ho0, hb⟩
                      refine ⟨_, rfl, ?_⟩
                      have n0_ := Aside0.mk (Kd.R_lower ho0 (below_size (by repeat (first | (with_reducible first | exact HB.out | apply below_alloc | apply pw_below_drewN | apply below_drew1) | exact HB.out))))
                      have n1_ := Aside0.mk (below_step (by repeat (first | (with_reducible first | exact HB.out | apply below_alloc | apply pw_below_drewN | apply below_drew1) | exact HB.out)) hb)
                      clear HB
                      have HO265 := n0_
                      have HB := n1_
                      clear n0_ n1_
                      (try clear hb)
                      (try clear hb2)
                      (try clear hk)
                      (try clear hi)
                      (try clear ho0)
                      obtain ⟨Ao42, co42, eo42⟩ := Kd.R_slice HO265.out
                      (first | subst eo42 | (injection eo42 with f1_ f2_ f3_; have f4_ := f1_.symm; have f5_ := f3_.symm; clear f1_ f2_ f3_; subst f4_; subst f5_))
                      refine hK.out _ _ trivial (fun hHeld => ?_)
                      clear hK K
                      refine norm_ (a' := ?_) ?_ ?_
                      rotate_left
                      · show Act.put _ (some 41) _ = _
                        simp only [Act.put, List.setIfInBounds_toArray, List.set_cons_zero, List.set_cons_succ, i64_w, i32_w]
                        rfl
                      refine one_ (i := 3) (N := some 42) #[true, true, true, true, false, false, false, false, false, false, false] rfl rfl (one_of HT_.out (by kernel_rfl)) (by decide) (fun K hK => ?_)
                      refine goes_ Tryz.func109 (by kernel_rfl) rfl #[.slice A40 ((l0.take 12).drop 0).length (c0 - 0), .slice Ao42 t263.length co42] (by rfl) rfl rfl (by (try simp only [List.map_toArray, List.map_cons, List.map_nil]); first | done | (rw [show ((l0.take 12).drop 0).length = (12 - 0) from (by rw [List.length_drop, List.length_take]; have h_ : (12 : Int) ≤ (l0.length : Int) := of_decide_eq_true (by first | (with_reducible assumption) | assumption); omega)] <;> rfl) | rfl | (simp only [List.length_drop, List.length_take]; rfl)) ?_
                      with_reducible refine (bytes_Equal.calls _ _ ((l0.take 12).drop 0) _ _ t263 false _ ?side1 ?side2 ?side3 ?side4 A30.out).mono ?_
                      (case side1 => repeat (first | exact (Kd.C_below HR262.out HB.out) | (with_reducible refine Kd.C_alloc ?_ _) | (with_reducible refine Kd.C_drewN ?_ _) | (with_reducible refine Kd.C_drew ?_)))
                      (case side2 => exact HC262.out)
                      (case side3 => repeat (first | exact (Kd.R_reads' HO265.out).2.2 | (with_reducible refine Kd.C_alloc ?_ _) | (with_reducible refine Kd.C_drewN ?_ _) | (with_reducible refine Kd.C_drew ?_)))
                      (case side4 => exact (Kd.R_reads' HO265.out).2.1)
                      rintro e w' ⟨rfl, ⟨nd, rfl⟩⟩
                      refine ⟨_, rfl, ?_⟩
                      refine hK.out _ _ trivial (fun hHeld => ?_)
                      clear hK K
                      refine norm_ (a' := ?_) ?_ ?_
                      rotate_left
                      · show Act.put _ (some 42) _ = _
                        simp only [Act.put, List.setIfInBounds_toArray, List.set_cons_zero, List.set_cons_succ, i64_w, i32_w]
                        rfl
                      refine pure_ (i := 4) (N := some 43) (v := ?_) (a' := ?_) #[true, true, true, true, true, false, false, false, false, false, false] rfl rfl (any_of HT_.out (by kernel_rfl)) (fun _ _ _ h => h) (Or.inl ⟨by rfl, ?_⟩) ?_ ?_
                      rotate_left
                      · intro w'
                        go_simp
                        with_reducible rfl
                      rotate_left
                      · simp only [Act.put, List.setIfInBounds_toArray, List.set_cons_zero, List.set_cons_succ, i64_w, i32_w]
                        rfl
                      refine pure_ (i := 5) (N := some 44) (v := undef) (a' := ?_) #[true, true, true, true, true, true, false, false, false, false, false] rfl rfl (any_of HT_.out (by kernel_rfl)) (fun _ _ _ h => h) (Or.inr ⟨by rfl, rfl⟩) ?_ ?_
                      rotate_left
                      · simp only [Act.put, List.setIfInBounds_toArray, List.set_cons_zero, List.set_cons_succ, i64_w, i32_w]
                        rfl
                      refine pure_ (i := 6) (N := some 45) (v := undef) (a' := ?_) #[true, true, true, true, true, true, true, false, false, false, false] rfl rfl (any_of HT_.out (by kernel_rfl)) (fun _ _ _ h => h) (Or.inr ⟨by rfl, rfl⟩) ?_ ?_
                      rotate_left
                      · simp only [Act.put, List.setIfInBounds_toArray, List.set_cons_zero, List.set_cons_succ, i64_w, i32_w]
                        rfl
                      refine pure_ (i := 7) (N := some 46) (v := undef) (a' := ?_) #[true, true, true, true, true, true, true, true, false, false, false] rfl rfl (any_of HT_.out (by kernel_rfl)) (fun _ _ _ h => h) (Or.inr ⟨by rfl, rfl⟩) ?_ ?_
                      rotate_left
                      · simp only [Act.put, List.setIfInBounds_toArray, List.set_cons_zero, List.set_cons_succ, i64_w, i32_w]
                        rfl
                      refine pure_ (i := 8) (N := some 47) (v := undef) (a' := ?_) #[true, true, true, true, true, true, true, true, true, false, false] rfl rfl (any_of HT_.out (by kernel_rfl)) (fun _ _ _ h => h) (Or.inr ⟨by rfl, rfl⟩) ?_ ?_
                      rotate_left
                      · simp only [Act.put, List.setIfInBounds_toArray, List.set_cons_zero, List.set_cons_succ, i64_w, i32_w]
                        rfl
                      refine pure_ (i := 9) (N := some 48) (v := ?_) (a' := ?_) #[true, true, true, true, true, true, true, true, true, true, false] rfl rfl (any_of HT_.out (by kernel_rfl)) (fun _ _ _ h => h) (Or.inl ⟨by rfl, ?_⟩) ?_ ?_
                      rotate_left
                      · intro w'
                        go_simp
                        with_reducible rfl
                      rotate_left
                      · simp only [Act.put, List.setIfInBounds_toArray, List.set_cons_zero, List.set_cons_succ, i64_w, i32_w]
                        rfl
                      refine pure_ (i := 10) (N := some 4) (v := ?_) (a' := ?_) #[true, true, true, true, true, true, true, true, true, true, true] rfl rfl (any_of HT_.out (by kernel_rfl)) (fun _ _ _ h => h) (Or.inl ⟨by rfl, ?_⟩) ?_ ?_
                      rotate_left
                      · intro w'
                        go_simp
                        with_reducible rfl
                      rotate_left
                      · simp only [Act.put, List.setIfInBounds_toArray, List.set_cons_zero, List.set_cons_succ, i64_w, i32_w]
                        rfl
                      refine done_ (done_of HT_.out (by kernel_rfl)) ?_
                      try go_wp2
                      go_ret
                      exact ⟨by first | rfl | (simp [errW_none, errW_some] <;> rfl) | (simp [*, errW_none, errW_some] <;> rfl), by repeat (first | (with_reducible first | exact HB.out | apply below_alloc | apply pw_below_drewN | apply below_drew1) | exact HB.out)⟩
                  · rw [if_neg c28] at H
                    exact absurd H (by simp)
                · rw [if_neg c27] at H
                  exact absurd H (by simp)
              · replace c26 := Bool.eq_false_iff.mpr c26
                subst c26
                have H1 : (some false) = some r := by rw [if_neg (show ¬ (false = true) by decide)] at H; exact H
                clear H
                have H := H1
                clear H1
                obtain rfl := Option.some.inj H
                go_wp2
                go_ret
                exact ⟨by first | rfl | (simp [errW_none, errW_some] <;> rfl) | (simp [*, errW_none, errW_some] <;> rfl), by repeat (first | (with_reducible first | exact HB.out | apply below_alloc | apply pw_below_drewN | apply below_drew1) | exact HB.out)⟩

/-! ### netcidr_IPv6loopback: function 91 -/
def netcidr_IPv6loopback.f  : Option (List Int) := some (([0, 0, 0, 0, 0, 0, 0, 0, 0, 0, 0, 0, 0, 0, 0, 1] : List Int))
set_option maxHeartbeats 8000000 in
set_option maxRecDepth 100000 in
theorem netcidr_IPv6loopback.calls  (r : List Int) (w : World) (h : netcidr_IPv6loopback.f  = some r) :
    Calls Tryz.prog 91 #[] w fun e w' => ∃ v0_ : Value, e = .returned (v0_) ∧ Kd.R (Kd.int .u8) 5 w' w.heap.size (fun _ => True) v0_ r ∧ Below w.heap.size w w' := by
  have HB := Aside0.mk (Below.refl w.heap.size w)
  have H : (some (([0, 0, 0, 0, 0, 0, 0, 0, 0, 0, 0, 0, 0, 0, 0, 1] : List Int))) = some r := h
  clear h
  obtain ⟨y269, hy269⟩ : ∃ y_ : List Int, y_ = (([0, 0, 0, 0, 0, 0, 0, 0, 0, 0, 0, 0, 0, 0, 0, 1] : List Int)) := ⟨_, rfl⟩
  replace H : (some y269) = some r := by first | (rw [hy269]; with_reducible exact H) | (have H2_ := (Option.bind_some _ _).symm.trans H; rw [hy269]; with_reducible exact H2_) | (have H2_ := (Option.bind_some _ _).symm.trans H; with_reducible exact H2_) | with_reducible exact H | (rw [hy269]; exact H) | exact H
  have Ny269 := Aside0.mk hy269
  clear hy269
  obtain rfl := Option.some.inj H
  go_enter Tryz.func91, Tryz.ntmps91
  go_wp2_with (first | ((with_reducible refine gate_dst (N := 1) rfl ?_); refine Kd.R_lit (Kd.int .u8) _ 5 ?hg (N := 1) ?hd (xs := ([0, 0, 0, 0, 0, 0, 0, 0, 0, 0, 0, 0, 0, 0, 0, 1] : List Int)) (inner := [.int .u8 0, .int .u8 0, .int .u8 0, .int .u8 0, .int .u8 0, .int .u8 0, .int .u8 0, .int .u8 0, .int .u8 0, .int .u8 0, .int .u8 0, .int .u8 0, .int .u8 0, .int .u8 0, .int .u8 0, .int .u8 1]) (ok := fun _ => True) (okp := fun _ => True) ?hr ?hp (fun _ hk => hk) trivial (Below.refl _ _) (Nat.le_refl _) (by simp) ?_; (case hd => rfl); (case hg => rfl); (case hr => first | (go_simp; done) | (go_simp; rfl)); (case hp => exact (Reps.one (show Kd.M (Kd.int .u8) _ _ _ 0 [.int .u8 0] from rfl) (Reps.one (show Kd.M (Kd.int .u8) _ _ _ 0 [.int .u8 0] from rfl) (Reps.one (show Kd.M (Kd.int .u8) _ _ _ 0 [.int .u8 0] from rfl) (Reps.one (show Kd.M (Kd.int .u8) _ _ _ 0 [.int .u8 0] from rfl) (Reps.one (show Kd.M (Kd.int .u8) _ _ _ 0 [.int .u8 0] from rfl) (Reps.one (show Kd.M (Kd.int .u8) _ _ _ 0 [.int .u8 0] from rfl) (Reps.one (show Kd.M (Kd.int .u8) _ _ _ 0 [.int .u8 0] from rfl) (Reps.one (show Kd.M (Kd.int .u8) _ _ _ 0 [.int .u8 0] from rfl) (Reps.one (show Kd.M (Kd.int .u8) _ _ _ 0 [.int .u8 0] from rfl) (Reps.one (show Kd.M (Kd.int .u8) _ _ _ 0 [.int .u8 0] from rfl) (Reps.one (show Kd.M (Kd.int .u8) _ _ _ 0 [.int .u8 0] from rfl) (Reps.one (show Kd.M (Kd.int .u8) _ _ _ 0 [.int .u8 0] from rfl) (Reps.one (show Kd.M (Kd.int .u8) _ _ _ 0 [.int .u8 0] from rfl) (Reps.one (show Kd.M (Kd.int .u8) _ _ _ 0 [.int .u8 0] from rfl) (Reps.one (show Kd.M (Kd.int .u8) _ _ _ 0 [.int .u8 0] from rfl) (Reps.one (show Kd.M (Kd.int .u8) _ _ _ 1 [.int .u8 1] from rfl) (Reps.none _ _)))))))))))))))))); intro v270 w1 ho2 hb hg_ hnew_; clear hg_ hnew_; (first | rw [← Ny269.out] at ho2 | (simp only [Int.reduceToNat] at ho2; rw [← Ny269.out] at ho2)); have n0_ := Aside0.mk (Kd.R_lower ho2 (below_size (by repeat (first | (with_reducible first | exact HB.out | apply below_alloc | apply pw_below_drewN | apply below_drew1) | exact HB.out)))); have n1_ := Aside0.mk (below_step (by repeat (first | (with_reducible first | exact HB.out | apply below_alloc | apply pw_below_drewN | apply below_drew1) | exact HB.out)) hb); clear HB; have HO271 := n0_; have HB := n1_; clear n0_ n1_; clear hb ho2))
  go_ret
  exact ⟨_, by first | rfl | (simp [errW_none, errW_some] <;> rfl) | (simp [*, errW_none, errW_some] <;> rfl), by (with_reducible repeat (first | apply Kd.R_alloc | apply Kd.R_drewN | apply Kd.R_drew)); exact HO271.out, by repeat (first | (with_reducible first | exact HB.out | apply below_alloc | apply pw_below_drewN | apply below_drew1) | exact HB.out)⟩

-- NOT PRINTED: function 55 (netcidr_IP_IsLoopback)

-- NOT PRINTED: function 35 (httpproxy_config_useProxy)

-- NOT PRINTED: function 25 (httpproxy_ZZUseProxy)

-- NOT PRINTED: function 12 (impl_UseProxy)

-- NOT PRINTED: function 11 (laws_works)

end Go.Proofs.YtpemdpfageikfaaGreatDoor.Q
