/- Contracts of the reference's functions, printed by the kit. -/
import Derived.Test.YtpemdpfageikfaaGreatDoorZQa
set_option linter.unusedVariables false
set_option linter.unusedSimpArgs false
/-
  Contracts of spec.Cut, isBlank, Trimmed and number.
  Written by the kit's print.sh for this seat, sections of it laid into this text by a small program (wip/tools/mkq.py); namespace Q.
-/
namespace Go.Proofs.YtpemdpfageikfaaGreatDoor.Q
open Go.RowKit Go.Proofs.YtpemdpfageikfaaGreatDoorW.PrintWords Go.Proofs.YtpemdpfageikfaaGreatDoorW.PrintLast Go.Proofs.YtpemdpfageikfaaGreatDoorW.PrintMore
attribute [local go_sem] max2_int min2_int max_two min_two max_three min_three max_four min_four   -- for this text's walks alone
set_option linter.unusedVariables false
set_option linter.unusedSimpArgs false

/-! ### spec_Cut: function 26 -/
def spec_Cut.l0 : Nat → ByteArray → Int → Int → Int → Option (ByteArray × ByteArray × Bool)
  | 0, _, _, _, _ => none
  | k + 1, x0, x1, x9, x10 => if x10 < x9 then (if 0 ≤ x10 then (if x10 < (x0.size : Int) then (if (bt x0 x10) = x1 then (if x10 ≤ (x0.size : Int) then (if 0 ≤ (wrap64 (x10 + 1)) then (if (wrap64 (x10 + 1)) ≤ (x0.size : Int) then (some (x0.extract 0 (x10 : Int).toNat, x0.extract ((wrap64 (x10 + 1)) : Int).toNat x0.size, true)) else (none)) else (none)) else (none)) else (spec_Cut.l0 k x0 x1 x9 (wrap64 (x10 + 1)))) else (none)) else (none)) else (some (x0, (⟨#[]⟩ : ByteArray), false))
def spec_Cut.f (k : Nat) (a0 : ByteArray) (a1 : Int) : Option (ByteArray × ByteArray × Bool) := spec_Cut.l0 k a0 a1 (a0.size : Int) 0
theorem spec_Cut.mono_l : ∀ k, (∀ y0 y1 y2 y3, LeO (spec_Cut.l0 k y0 y1 y2 y3) (spec_Cut.l0 (k + 1) y0 y1 y2 y3))
  | 0 => fun _ _ _ _ r h => by simp [spec_Cut.l0] at h
  | k + 1 => by
    have ih0 := spec_Cut.mono_l k
    · intro y0 y1 y2 y3
      unfold spec_Cut.l0
      repeat' first
      | (with_reducible exact ih0 _ _ _ _)
      | (with_reducible exact LeO.refl _)
      | (with_reducible exact LeO.none _)
      | (with_reducible refine LeO.ite ?_ ?_)
      | (with_reducible refine LeO.bind ?_ (fun _ => ?_))
      | exact ih0 _ _ _ _
      | exact LeO.none _
      | refine LeO.ite ?_ ?_
      | refine LeO.bind ?_ (fun _ => ?_)
theorem spec_Cut.mono : ∀ a0 a1 k, LeO (spec_Cut.f k a0 a1) (spec_Cut.f (k + 1) a0 a1) := by
  intro a0 a1 k
  have ih0 := spec_Cut.mono_l k
  unfold spec_Cut.f
  repeat' first
      | (with_reducible exact ih0 _ _ _ _)
      | (with_reducible exact LeO.refl _)
      | (with_reducible exact LeO.none _)
      | (with_reducible refine LeO.ite ?_ ?_)
      | (with_reducible refine LeO.bind ?_ (fun _ => ?_))
      | exact ih0 _ _ _ _
      | exact LeO.none _
      | refine LeO.ite ?_ ?_
      | refine LeO.bind ?_ (fun _ => ?_)
set_option maxHeartbeats 8000000 in
set_option maxRecDepth 100000 in
theorem spec_Cut.calls (k : Nat) (a0 : ByteArray) (a1 : Int) (r1 : ByteArray) (r2 : ByteArray) (r3 : Bool) (w : World) (h : spec_Cut.f k a0 a1 = some (r1, r2, r3)) :
    Calls Tryz.prog 26 #[.string a0, .int .u8 a1] w fun e w' => e = .returned (.tuple #[.string r1, .string r2, .bool r3]) ∧ Drawn0 w w' := by
  have H : (spec_Cut.l0 k a0 a1 (a0.size : Int) 0) = some (r1, r2, r3) := h
  clear h
  have H' := Aside0.mk H
  clear H
  go_enter Tryz.func26, Tryz.ntmps26
  go_wp2
  repeat (go_quiet (fail); try go_wp2)
  go_loopg [10] k (fun kq v10 w' => ∃ (x10_1 : Int), v10 = .int .i64 x10_1 ∧ Aside0 (spec_Cut.l0 kq a0 a1 (a0.size : Int) x10_1 = some (r1, r2, r3)) ∧ Aside0 (kq ≤ k) ∧ Drawn0 w w')
  case atStart => exact ⟨(0), (by first | rfl | (simp; done) | (simp [*]; done)), H', ⟨Nat.le_refl _⟩, by repeat (first | exact Drawn0.refl _ | apply Drawn0.step)⟩
  case round =>
    clear H'
    try clear c2
    try clear p2
    obtain ⟨x10_1, rfl, HA, HK1, ⟨m1, rfl⟩⟩ := hrel
    cases gk with
    | zero => exact absurd HA.out (by simp [spec_Cut.l0])
    | succ k1 =>
      have H := HA.out
      clear HA
      simp only [spec_Cut.l0] at H
      by_cases c3 : x10_1 < (a0.size : Int)
      · rw [if_pos c3] at H
        have c3b0 : decide (x10_1 < (a0.size : Int)) = true := decide_eq_true c3
        clear c3
        by_cases c4 : 0 ≤ x10_1
        · rw [if_pos c4] at H
          have c4b0 : decide (0 ≤ x10_1) = true := decide_eq_true c4
          clear c4
          by_cases c5 : x10_1 < (a0.size : Int)
          · rw [if_pos c5] at H
            have c5b0 : decide (x10_1 < (a0.size : Int)) = true := decide_eq_true c5
            clear c5
            by_cases c7 : (bt a0 x10_1) = a1
            · rw [if_pos c7] at H
              have c7b0 : ((bt a0 x10_1) == a1) = true := beq_iff_eq.mpr c7
              have c7b1 : ((bt a0 x10_1) != a1) = false := bne_eq_false_iff_eq.mpr c7
              clear c7
              have c8b0 := eq_true (of_decide_eq_true (by first | (with_reducible assumption) | assumption) : 0 ≤ x10_1)
              by_cases c9 : x10_1 ≤ (a0.size : Int)
              · rw [if_pos c9] at H
                have c9b0 := eq_true c9
                have c9b1 : decide (x10_1 ≤ (a0.size : Int)) = true := decide_eq_true c9
                clear c9
                obtain ⟨ji10, hji10⟩ : ∃ j_ : Int, (wrap64 (x10_1 + 1)) = j_ := ⟨_, rfl⟩
                replace H : (if 0 ≤ (ji10) then (if (ji10) ≤ (a0.size : Int) then (some (a0.extract 0 (x10_1 : Int).toNat, a0.extract ((ji10) : Int).toNat a0.size, true)) else (none)) else (none)) = some (r1, r2, r3) := by first | (rw [hji10] at H; exact H) | (simp only [hji10] at H ⊢; exact H)
                have hji10w : (IntKind.i64.wrap (x10_1 + 1)) = ji10 := (i64_w _).trans hji10
                by_cases c11 : 0 ≤ (ji10)
                · rw [if_pos c11] at H
                  have c11b0 := eq_true c11
                  have c11b1 : decide (0 ≤ (ji10)) = true := decide_eq_true c11
                  clear c11
                  by_cases c12 : (ji10) ≤ (a0.size : Int)
                  · rw [if_pos c12] at H
                    have c12b0 := eq_true c12
                    have c12b1 : decide ((ji10) ≤ (a0.size : Int)) = true := decide_eq_true c12
                    clear c12
                    simp only [Option.some.injEq, Prod.mk.injEq] at H
                    obtain ⟨rfl, rfl, rfl⟩ := H
                    have p6 : 0 ≤ (x10_1 : Int) := of_decide_eq_true (by first | (with_reducible assumption) | assumption)
                    have q6 : x10_1 < (a0.size : Int) := of_decide_eq_true (by first | (with_reducible assumption) | assumption)
                    have hx6 := bt_at a0 x10_1
                    replace p6 := eq_true p6
                    replace q6 := eq_true q6
                    go_wp2
                    repeat (go_quiet (fail); try go_wp2)
                    go_ret3
                    exact ⟨by first | rfl | (simp; done) | (simp only [← hji10] <;> (first | rfl | simp)) | (simp [*]; done), by repeat (first | exact Drawn0.refl _ | apply Drawn0.step)⟩
                  · rw [if_neg c12] at H
                    exact absurd H (by simp)
                · rw [if_neg c11] at H
                  exact absurd H (by simp)
              · rw [if_neg c9] at H
                exact absurd H (by simp)
            · rw [if_neg c7] at H
              have c7b0 : ((bt a0 x10_1) == a1) = false := beq_eq_false_iff_ne.mpr c7
              have c7b1 : ((bt a0 x10_1) != a1) = true := bne_iff_ne.mpr c7
              have H' := Aside0.mk H
              clear H
              have p6 : 0 ≤ (x10_1 : Int) := of_decide_eq_true (by first | (with_reducible assumption) | assumption)
              have q6 : x10_1 < (a0.size : Int) := of_decide_eq_true (by first | (with_reducible assumption) | assumption)
              have hx6 := bt_at a0 x10_1
              replace p6 := eq_true p6
              replace q6 := eq_true q6
              go_wp2
              repeat (go_quiet (fail); try go_wp2)
              go_roundg k1
              case measure => have := HK1.out; omega
              case rel => exact ⟨(wrap64 (x10_1 + 1)), (by first | rfl | (simp; done) | (simp [*]; done)), H', ⟨by have := HK1.out; omega⟩, by repeat (first | exact Drawn0.refl _ | apply Drawn0.step)⟩
          · rw [if_neg c5] at H
            exact absurd H (by simp)
        · rw [if_neg c4] at H
          exact absurd H (by simp)
      · rw [if_neg c3] at H
        have c3b0 : decide (x10_1 < (a0.size : Int)) = false := decide_eq_false c3
        clear c3
        simp only [Option.some.injEq, Prod.mk.injEq] at H
        obtain ⟨rfl, rfl, rfl⟩ := H
        go_wp2
        repeat (go_quiet (fail); try go_wp2)
        go_ret3
        exact ⟨by first | rfl | (simp; done) | (simp [*]; done), by repeat (first | exact Drawn0.refl _ | apply Drawn0.step)⟩

-- NOT PRINTED: function 27 (spec_Lower)

/-! ### spec_isBlank: function 36 -/
def spec_isBlank.f (a0 : Int) : Option (Bool) := if a0 = 32 then (some true) else (if a0 ≥ 9 then (some (decide (a0 ≤ 13))) else (some false))
set_option maxHeartbeats 8000000 in
set_option maxRecDepth 100000 in
theorem spec_isBlank.calls (a0 : Int) (r : Bool) (w : World) (h : spec_isBlank.f a0 = some r) :
    Calls Tryz.prog 36 #[.int .u8 a0] w fun e w' => e = .returned (.bool r) ∧ Drawn0 w w' := by
  have H : (if a0 = 32 then (some true) else (if a0 ≥ 9 then (some (decide (a0 ≤ 13))) else (some false))) = some r := h
  clear h
  by_cases c2 : a0 = 32
  · rw [if_pos c2] at H
    have c2b0 : (a0 == 32) = true := beq_iff_eq.mpr c2
    have c2b1 : (a0 != 32) = false := bne_eq_false_iff_eq.mpr c2
    clear c2
    obtain rfl := Option.some.inj H
    go_enter Tryz.func36, Tryz.ntmps36
    go_wp2
    go_ret
    exact ⟨by first | rfl | (simp; done) | (simp [*]; done), by repeat (first | exact Drawn0.refl _ | apply Drawn0.step)⟩
  · rw [if_neg c2] at H
    have c2b0 : (a0 == 32) = false := beq_eq_false_iff_ne.mpr c2
    have c2b1 : (a0 != 32) = true := bne_iff_ne.mpr c2
    by_cases c3 : a0 ≥ 9
    · rw [if_pos c3] at H
      have c3b0 : decide (9 ≤ a0) = true := decide_eq_true c3
      clear c3
      obtain rfl := Option.some.inj H
      go_enter Tryz.func36, Tryz.ntmps36
      go_wp2
      go_ret
      exact ⟨by first | rfl | (simp; done) | (simp [*]; done), by repeat (first | exact Drawn0.refl _ | apply Drawn0.step)⟩
    · rw [if_neg c3] at H
      have c3b0 : decide (9 ≤ a0) = false := decide_eq_false c3
      clear c3
      obtain rfl := Option.some.inj H
      go_enter Tryz.func36, Tryz.ntmps36
      go_wp2
      go_ret
      exact ⟨by first | rfl | (simp; done) | (simp [*]; done), by repeat (first | exact Drawn0.refl _ | apply Drawn0.step)⟩

/-! ### spec_Trimmed: function 28 -/
mutual
def spec_Trimmed.j1 : Nat → ByteArray → Option (ByteArray)
  | 0, _ => none
  | k + 1, x0 => spec_Trimmed.l1 k x0
def spec_Trimmed.l1 : Nat → ByteArray → Option (ByteArray)
  | 0, _ => none
  | k + 1, x0 => if x0.toList = ([] : List UInt8) then (some x0) else (if 0 ≤ (wrap64 ((x0.size : Int) - 1)) then (if (wrap64 ((x0.size : Int) - 1)) < (x0.size : Int) then ((spec_isBlank.f (bt x0 (wrap64 ((x0.size : Int) - 1)))).bind fun t273 => (if t273 = true then (if (wrap64 ((x0.size : Int) - 1)) ≤ (x0.size : Int) then (spec_Trimmed.l1 k (x0.extract 0 ((wrap64 ((x0.size : Int) - 1)) : Int).toNat)) else (none)) else (some x0))) else (none)) else (none))
def spec_Trimmed.l0 : Nat → ByteArray → Option (ByteArray)
  | 0, _ => none
  | k + 1, x0 => if x0.toList = ([] : List UInt8) then (spec_Trimmed.j1 k x0) else (if 0 < (x0.size : Int) then ((spec_isBlank.f (bt x0 0)).bind fun t272 => (if t272 = true then (if 1 ≤ (x0.size : Int) then (spec_Trimmed.l0 k (x0.extract 1 x0.size)) else (none)) else (spec_Trimmed.j1 k x0))) else (none))
end
def spec_Trimmed.f (k : Nat) (a0 : ByteArray) : Option (ByteArray) := spec_Trimmed.l0 k a0
theorem spec_Trimmed.mono_l : ∀ k, (∀ y0, LeO (spec_Trimmed.j1 k y0) (spec_Trimmed.j1 (k + 1) y0)) ∧ (∀ y0, LeO (spec_Trimmed.l1 k y0) (spec_Trimmed.l1 (k + 1) y0)) ∧ (∀ y0, LeO (spec_Trimmed.l0 k y0) (spec_Trimmed.l0 (k + 1) y0))
  | 0 => ⟨fun _ r h => by simp [spec_Trimmed.j1] at h, fun _ r h => by simp [spec_Trimmed.l1] at h, fun _ r h => by simp [spec_Trimmed.l0] at h⟩
  | k + 1 => by
    obtain ⟨ih0, ih1, ih2⟩ := spec_Trimmed.mono_l k
    refine ⟨?_, ?_, ?_⟩
    · intro y0
      unfold spec_Trimmed.j1
      repeat' first
      | (with_reducible exact ih0 _)
      | (with_reducible exact ih1 _)
      | (with_reducible exact ih2 _)
      | (with_reducible exact LeO.refl _)
      | (with_reducible exact LeO.none _)
      | (with_reducible refine LeO.ite ?_ ?_)
      | (with_reducible refine LeO.bind ?_ (fun _ => ?_))
      | exact ih0 _
      | exact ih1 _
      | exact ih2 _
      | exact LeO.none _
      | refine LeO.ite ?_ ?_
      | refine LeO.bind ?_ (fun _ => ?_)
    · intro y0
      unfold spec_Trimmed.l1
      repeat' first
      | (with_reducible exact ih0 _)
      | (with_reducible exact ih1 _)
      | (with_reducible exact ih2 _)
      | (with_reducible exact LeO.refl _)
      | (with_reducible exact LeO.none _)
      | (with_reducible refine LeO.ite ?_ ?_)
      | (with_reducible refine LeO.bind ?_ (fun _ => ?_))
      | exact ih0 _
      | exact ih1 _
      | exact ih2 _
      | exact LeO.none _
      | refine LeO.ite ?_ ?_
      | refine LeO.bind ?_ (fun _ => ?_)
    · intro y0
      unfold spec_Trimmed.l0
      repeat' first
      | (with_reducible exact ih0 _)
      | (with_reducible exact ih1 _)
      | (with_reducible exact ih2 _)
      | (with_reducible exact LeO.refl _)
      | (with_reducible exact LeO.none _)
      | (with_reducible refine LeO.ite ?_ ?_)
      | (with_reducible refine LeO.bind ?_ (fun _ => ?_))
      | exact ih0 _
      | exact ih1 _
      | exact ih2 _
      | exact LeO.none _
      | refine LeO.ite ?_ ?_
      | refine LeO.bind ?_ (fun _ => ?_)
theorem spec_Trimmed.mono : ∀ a0 k, LeO (spec_Trimmed.f k a0) (spec_Trimmed.f (k + 1) a0) := by
  intro a0 k
  obtain ⟨ih0, ih1, ih2⟩ := spec_Trimmed.mono_l k
  unfold spec_Trimmed.f
  repeat' first
      | (with_reducible exact ih0 _)
      | (with_reducible exact ih1 _)
      | (with_reducible exact ih2 _)
      | (with_reducible exact LeO.refl _)
      | (with_reducible exact LeO.none _)
      | (with_reducible refine LeO.ite ?_ ?_)
      | (with_reducible refine LeO.bind ?_ (fun _ => ?_))
      | exact ih0 _
      | exact ih1 _
      | exact ih2 _
      | exact LeO.none _
      | refine LeO.ite ?_ ?_
      | refine LeO.bind ?_ (fun _ => ?_)
set_option maxHeartbeats 8000000 in
set_option maxRecDepth 100000 in
theorem spec_Trimmed.calls (k : Nat) (a0 : ByteArray) (r : ByteArray) (w : World) (h : spec_Trimmed.f k a0 = some r) :
    Calls Tryz.prog 28 #[.string a0] w fun e w' => e = .returned (.string r) ∧ Drawn0 w w' := by
  have H : (spec_Trimmed.l0 k a0) = some r := h
  clear h
  have HC2 := Aside0.mk H
  clear H
  go_enter Tryz.func28, Tryz.ntmps28
  go_upto_block 0 with (fail)
  go_cut [0] (fun v0 wc => ∃ (kq : Nat) (x0_1 : ByteArray), v0 = .string x0_1 ∧ Aside0 (spec_Trimmed.j1 kq x0_1 = some r) ∧ Aside0 (kq ≤ k) ∧ Drawn0 w wc)
  case first =>
    have H := HC2.out
    clear HC2
    have H' := Aside0.mk H
    clear H
    go_wp2
    go_loopg [0] k (fun kq v0 w' => ∃ (x0_1 : ByteArray), v0 = .string x0_1 ∧ Aside0 (spec_Trimmed.l0 kq x0_1 = some r) ∧ Aside0 (kq ≤ k) ∧ Drawn0 w w')
    case atStart => exact ⟨(a0), (by first | rfl | (simp; done) | (simp [*]; done)), H', ⟨Nat.le_refl _⟩, by repeat (first | exact Drawn0.refl _ | apply Drawn0.step)⟩
    case round =>
      clear H'
      try clear c2
      try clear p2
      obtain ⟨x0_1, rfl, HA, HK1, ⟨m1, rfl⟩⟩ := hrel
      cases gk with
      | zero => exact absurd HA.out (by simp [spec_Trimmed.l0])
      | succ k1 =>
        have H := HA.out
        clear HA
        simp only [spec_Trimmed.l0] at H
        by_cases c3 : x0_1.toList = ([] : List UInt8)
        · rw [if_pos c3] at H
          have c3b0 : (x0_1.toList == ([] : List UInt8)) = true := beq_iff_eq.mpr c3
          have c3b1 : (x0_1.toList != ([] : List UInt8)) = false := bne_eq_false_iff_eq.mpr c3
          clear c3
          (first | rw [c3b0] | (simp only [i64_w, i32_w]; rw [c3b0]) | skip)
          have H' := Aside0.mk H
          clear H
          go_wp2
          go_meet
          case rel => exact ⟨_, (x0_1), (by first | rfl | (simp; done) | (simp [*]; done)), H', ⟨by have := HK1.out; first | omega | exact Nat.le_refl _⟩, by repeat (first | exact Drawn0.refl _ | apply Drawn0.step)⟩
        · rw [if_neg c3] at H
          have c3b0 : (x0_1.toList == ([] : List UInt8)) = false := beq_eq_false_iff_ne.mpr c3
          have c3b1 : (x0_1.toList != ([] : List UInt8)) = true := bne_iff_ne.mpr c3
          (first | rw [c3b0] | (simp only [i64_w, i32_w]; rw [c3b0]) | skip)
          by_cases c4 : 0 < (x0_1.size : Int)
          · rw [if_pos c4] at H
            have c4b0 : decide (0 < (x0_1.size : Int)) = true := decide_eq_true c4
            have c4b1 : decide (0 < x0_1.size) = true := decide_eq_true (by omega)
            clear c4
            replace H := Option.bind_eq_some_iff.mp H
            obtain ⟨t272, A60, H⟩ := H
            replace H : (if t272 = true then (if 1 ≤ (x0_1.size : Int) then (spec_Trimmed.l0 k1 (x0_1.extract 1 x0_1.size)) else (none)) else (spec_Trimmed.j1 k1 x0_1)) = some r := H
            have A6 := Aside0.mk A60
            clear A60
            by_cases c7 : t272 = true
            · subst c7
              have H1 : (if 1 ≤ (x0_1.size : Int) then (spec_Trimmed.l0 k1 (x0_1.extract 1 x0_1.size)) else (none)) = some r := by rw [if_pos rfl] at H; exact H
              clear H
              have H := H1
              clear H1
              by_cases c8 : 1 ≤ (x0_1.size : Int)
              · rw [if_pos c8] at H
                have c8b0 := eq_true c8
                have c8b1 : decide (1 ≤ (x0_1.size : Int)) = true := decide_eq_true c8
                clear c8
                have H' := Aside0.mk H
                clear H
                have p5 : 0 ≤ (0 : Int) := (by omega)
                have q5 : 0 < x0_1.size := (by have : (0 : Int) < (x0_1.size : Int) := of_decide_eq_true (by first | (with_reducible assumption) | assumption); omega)
                have hx5 : ∀ h : 0 < x0_1.size, ((x0_1[0]'h).toNat : Int) = bt x0_1 0 := bt_at x0_1 0
                clear p5
                have qi5 : (0 < (x0_1.size : Int)) = True := eq_true (of_decide_eq_true (by first | (with_reducible assumption) | assumption))
                replace q5 := eq_true q5
                go_wp2_with (first | (go_at_call 36; (with_reducible refine (spec_isBlank.calls (bt x0_1 0) true _ A6.out).mono ?_); rintro e w' ⟨rfl, ⟨nd, rfl⟩⟩))
                go_roundg k1
                case measure => have := HK1.out; omega
                case rel => exact ⟨(x0_1.extract 1 x0_1.size), (by first | rfl | (simp; done) | (simp [*]; done)), H', ⟨by have := HK1.out; omega⟩, by repeat (first | exact Drawn0.refl _ | apply Drawn0.step)⟩
              · rw [if_neg c8] at H
                exact absurd H (by simp)
            · replace c7 := Bool.eq_false_iff.mpr c7
              subst c7
              have H1 : (spec_Trimmed.j1 k1 x0_1) = some r := by rw [if_neg (show ¬ (false = true) by decide)] at H; exact H
              clear H
              have H := H1
              clear H1
              have H' := Aside0.mk H
              clear H
              have p5 : 0 ≤ (0 : Int) := (by omega)
              have q5 : 0 < x0_1.size := (by have : (0 : Int) < (x0_1.size : Int) := of_decide_eq_true (by first | (with_reducible assumption) | assumption); omega)
              have hx5 : ∀ h : 0 < x0_1.size, ((x0_1[0]'h).toNat : Int) = bt x0_1 0 := bt_at x0_1 0
              clear p5
              have qi5 : (0 < (x0_1.size : Int)) = True := eq_true (of_decide_eq_true (by first | (with_reducible assumption) | assumption))
              replace q5 := eq_true q5
              go_wp2_with (first | (go_at_call 36; (with_reducible refine (spec_isBlank.calls (bt x0_1 0) false _ A6.out).mono ?_); rintro e w' ⟨rfl, ⟨nd, rfl⟩⟩))
              go_meet
              case rel => exact ⟨_, (x0_1), (by first | rfl | (simp; done) | (simp [*]; done)), H', ⟨by have := HK1.out; first | omega | exact Nat.le_refl _⟩, by repeat (first | exact Drawn0.refl _ | apply Drawn0.step)⟩
          · rw [if_neg c4] at H
            exact absurd H (by simp)
  case rest =>
    clear HC2
    try clear c2
    try clear p2
    try clear c3
    try clear c3b0
    try clear c3b1
    try clear c4
    try clear c4b0
    try clear c4b1
    try clear p5
    try clear q5
    try clear hx5
    try clear qi5
    try clear c7
    try clear c8
    try clear c8b0
    try clear c8b1
    try clear p2
    try clear p5
    try clear q5
    obtain ⟨kq, x0_1, rfl, HA, HJ1, ⟨mc1, rfl⟩⟩ := hcut
    cases kq with
    | zero => exact absurd HA.out (by simp [spec_Trimmed.j1])
    | succ kj1 =>
      have H := HA.out
      clear HA
      simp only [spec_Trimmed.j1] at H
      have H' := Aside0.mk H
      clear H
      go_wp2
      go_loopg [0] kj1 (fun kq v0 w' => ∃ (x0_2 : ByteArray), v0 = .string x0_2 ∧ Aside0 (spec_Trimmed.l1 kq x0_2 = some r) ∧ Aside0 (kq ≤ kj1) ∧ Drawn0 w w')
      case atStart => exact ⟨(x0_1), (by first | rfl | (simp; done) | (simp [*]; done)), H', ⟨Nat.le_refl _⟩, by repeat (first | exact Drawn0.refl _ | apply Drawn0.step)⟩
      case round =>
        clear H'
        try clear c1
        try clear c2
        try clear p2
        try clear c3
        try clear c3b0
        try clear c3b1
        try clear c4
        try clear c4b0
        try clear c4b1
        try clear p5
        try clear q5
        try clear hx5
        try clear qi5
        try clear c7
        try clear c8
        try clear c8b0
        try clear c8b1
        try clear p2
        try clear p5
        try clear q5
        obtain ⟨x0_2, rfl, HA, HK2, ⟨m2, rfl⟩⟩ := hrel
        cases gk with
        | zero => exact absurd HA.out (by simp [spec_Trimmed.l1])
        | succ k2 =>
          have H := HA.out
          clear HA
          simp only [spec_Trimmed.l1] at H
          by_cases c9 : x0_2.toList = ([] : List UInt8)
          · rw [if_pos c9] at H
            have c9b0 : (x0_2.toList == ([] : List UInt8)) = true := beq_iff_eq.mpr c9
            have c9b1 : (x0_2.toList != ([] : List UInt8)) = false := bne_eq_false_iff_eq.mpr c9
            clear c9
            obtain rfl := Option.some.inj H
            go_wp2
            go_ret
            exact ⟨by first | rfl | (simp; done) | (simp [*]; done), by repeat (first | exact Drawn0.refl _ | apply Drawn0.step)⟩
          · rw [if_neg c9] at H
            have c9b0 : (x0_2.toList == ([] : List UInt8)) = false := beq_eq_false_iff_ne.mpr c9
            have c9b1 : (x0_2.toList != ([] : List UInt8)) = true := bne_iff_ne.mpr c9
            obtain ⟨ji10, hji10⟩ : ∃ j_ : Int, (wrap64 ((x0_2.size : Int) - 1)) = j_ := ⟨_, rfl⟩
            replace H : (if 0 ≤ (ji10) then (if (ji10) < (x0_2.size : Int) then ((spec_isBlank.f (bt x0_2 (ji10))).bind fun t273 => (if t273 = true then (if (ji10) ≤ (x0_2.size : Int) then (spec_Trimmed.l1 k2 (x0_2.extract 0 ((ji10) : Int).toNat)) else (none)) else (some x0_2))) else (none)) else (none)) = some r := by first | (rw [hji10] at H; exact H) | (simp only [hji10] at H ⊢; exact H)
            have hji10w : (IntKind.i64.wrap ((x0_2.size : Int) - 1)) = ji10 := (i64_w _).trans hji10
            by_cases c11 : 0 ≤ (ji10)
            · rw [if_pos c11] at H
              have c11b0 : decide (0 ≤ (ji10)) = true := decide_eq_true c11
              clear c11
              by_cases c12 : (ji10) < (x0_2.size : Int)
              · rw [if_pos c12] at H
                have c12b0 : decide ((ji10) < (x0_2.size : Int)) = true := decide_eq_true c12
                clear c12
                replace H := Option.bind_eq_some_iff.mp H
                obtain ⟨t273, A140, H⟩ := H
                replace H : (if t273 = true then (if (ji10) ≤ (x0_2.size : Int) then (spec_Trimmed.l1 k2 (x0_2.extract 0 ((ji10) : Int).toNat)) else (none)) else (some x0_2)) = some r := H
                have A14 := Aside0.mk A140
                clear A140
                by_cases c15 : t273 = true
                · subst c15
                  have H1 : (if (ji10) ≤ (x0_2.size : Int) then (spec_Trimmed.l1 k2 (x0_2.extract 0 ((ji10) : Int).toNat)) else (none)) = some r := by rw [if_pos rfl] at H; exact H
                  clear H
                  have H := H1
                  clear H1
                  have c16b0 := eq_true (of_decide_eq_true (by first | (with_reducible assumption) | assumption) : 0 ≤ (ji10))
                  by_cases c17 : (ji10) ≤ (x0_2.size : Int)
                  · rw [if_pos c17] at H
                    have c17b0 := eq_true c17
                    have c17b1 : decide ((ji10) ≤ (x0_2.size : Int)) = true := decide_eq_true c17
                    clear c17
                    have H' := Aside0.mk H
                    clear H
                    have p13 : 0 ≤ ((ji10) : Int) := of_decide_eq_true (by first | (with_reducible assumption) | assumption)
                    have q13 : (ji10) < (x0_2.size : Int) := of_decide_eq_true (by first | (with_reducible assumption) | assumption)
                    have hx13 := bt_at x0_2 (ji10)
                    replace p13 := eq_true p13
                    replace q13 := eq_true q13
                    go_wp2_with (first | (go_at_call 36; (with_reducible refine (spec_isBlank.calls (bt x0_2 (ji10)) true _ A14.out).mono ?_); rintro e w' ⟨rfl, ⟨nd, rfl⟩⟩))
                    go_roundg k2
                    case measure => have := HJ1.out; have := HK2.out; omega
                    case rel => exact ⟨(x0_2.extract 0 ((ji10) : Int).toNat), (by first | rfl | (simp; done) | (simp only [← hji10] <;> (first | rfl | simp)) | (simp [*]; done)), H', ⟨by have := HJ1.out; have := HK2.out; omega⟩, by repeat (first | exact Drawn0.refl _ | apply Drawn0.step)⟩
                  · rw [if_neg c17] at H
                    exact absurd H (by simp)
                · replace c15 := Bool.eq_false_iff.mpr c15
                  subst c15
                  have H1 : (some x0_2) = some r := by rw [if_neg (show ¬ (false = true) by decide)] at H; exact H
                  clear H
                  have H := H1
                  clear H1
                  obtain rfl := Option.some.inj H
                  have p13 : 0 ≤ ((ji10) : Int) := of_decide_eq_true (by first | (with_reducible assumption) | assumption)
                  have q13 : (ji10) < (x0_2.size : Int) := of_decide_eq_true (by first | (with_reducible assumption) | assumption)
                  have hx13 := bt_at x0_2 (ji10)
                  replace p13 := eq_true p13
                  replace q13 := eq_true q13
                  go_wp2_with (first | (go_at_call 36; (with_reducible refine (spec_isBlank.calls (bt x0_2 (ji10)) false _ A14.out).mono ?_); rintro e w' ⟨rfl, ⟨nd, rfl⟩⟩))
                  go_ret
                  exact ⟨by first | rfl | (simp; done) | (simp only [← hji10] <;> (first | rfl | simp)) | (simp [*]; done), by repeat (first | exact Drawn0.refl _ | apply Drawn0.step)⟩
              · rw [if_neg c12] at H
                exact absurd H (by simp)
            · rw [if_neg c11] at H
              exact absurd H (by simp)

/-! ### spec_number: function 37 -/
mutual
def spec_number.l0 : Nat → ByteArray → Int → Int → Int → Int → Option (Int × Bool)
  | 0, _, _, _, _, _ => none
  | k + 1, x0, x1, x6, x9, x10 => if x10 < x9 then (if 0 ≤ x10 then (if x10 < (x0.size : Int) then (if (bt x0 x10) < 48 then (spec_number.j1 k x0 x1 x6 x10 x9 x10 true) else (spec_number.j1 k x0 x1 x6 x10 x9 x10 (decide ((bt x0 x10) > 57)))) else (none)) else (none)) else (some (x6, (x0.toList != ([] : List UInt8))))
def spec_number.j1 : Nat → ByteArray → Int → Int → Int → Int → Int → Bool → Option (Int × Bool)
  | 0, _, _, _, _, _, _, _ => none
  | k + 1, x0, x1, x6, x7, x9, x10, x22 => if x22 = true then (some (0, false)) else (if 0 ≤ x7 then (if x7 < (x0.size : Int) then (if (wrap64 ((wrap64 (x6 * 10)) + (((bt x0 x7) - 48) % 256))) > x1 then (some (0, false)) else (spec_number.l0 k x0 x1 (wrap64 ((wrap64 (x6 * 10)) + (((bt x0 x7) - 48) % 256))) x9 (wrap64 (x10 + 1)))) else (none)) else (none))
end
def spec_number.f (k : Nat) (a0 : ByteArray) (a1 : Int) : Option (Int × Bool) := spec_number.l0 k a0 a1 0 (a0.size : Int) 0
theorem spec_number.mono_l : ∀ k, (∀ y0 y1 y2 y3 y4, LeO (spec_number.l0 k y0 y1 y2 y3 y4) (spec_number.l0 (k + 1) y0 y1 y2 y3 y4)) ∧ (∀ y0 y1 y2 y3 y4 y5 y6, LeO (spec_number.j1 k y0 y1 y2 y3 y4 y5 y6) (spec_number.j1 (k + 1) y0 y1 y2 y3 y4 y5 y6))
  | 0 => ⟨fun _ _ _ _ _ r h => by simp [spec_number.l0] at h, fun _ _ _ _ _ _ _ r h => by simp [spec_number.j1] at h⟩
  | k + 1 => by
    obtain ⟨ih0, ih1⟩ := spec_number.mono_l k
    refine ⟨?_, ?_⟩
    · intro y0 y1 y2 y3 y4
      unfold spec_number.l0
      repeat' first
      | (with_reducible exact ih0 _ _ _ _ _)
      | (with_reducible exact ih1 _ _ _ _ _ _ _)
      | (with_reducible exact LeO.refl _)
      | (with_reducible exact LeO.none _)
      | (with_reducible refine LeO.ite ?_ ?_)
      | (with_reducible refine LeO.bind ?_ (fun _ => ?_))
      | exact ih0 _ _ _ _ _
      | exact ih1 _ _ _ _ _ _ _
      | exact LeO.none _
      | refine LeO.ite ?_ ?_
      | refine LeO.bind ?_ (fun _ => ?_)
    · intro y0 y1 y2 y3 y4 y5 y6
      unfold spec_number.j1
      repeat' first
      | (with_reducible exact ih0 _ _ _ _ _)
      | (with_reducible exact ih1 _ _ _ _ _ _ _)
      | (with_reducible exact LeO.refl _)
      | (with_reducible exact LeO.none _)
      | (with_reducible refine LeO.ite ?_ ?_)
      | (with_reducible refine LeO.bind ?_ (fun _ => ?_))
      | exact ih0 _ _ _ _ _
      | exact ih1 _ _ _ _ _ _ _
      | exact LeO.none _
      | refine LeO.ite ?_ ?_
      | refine LeO.bind ?_ (fun _ => ?_)
theorem spec_number.mono : ∀ a0 a1 k, LeO (spec_number.f k a0 a1) (spec_number.f (k + 1) a0 a1) := by
  intro a0 a1 k
  obtain ⟨ih0, ih1⟩ := spec_number.mono_l k
  unfold spec_number.f
  repeat' first
      | (with_reducible exact ih0 _ _ _ _ _)
      | (with_reducible exact ih1 _ _ _ _ _ _ _)
      | (with_reducible exact LeO.refl _)
      | (with_reducible exact LeO.none _)
      | (with_reducible refine LeO.ite ?_ ?_)
      | (with_reducible refine LeO.bind ?_ (fun _ => ?_))
      | exact ih0 _ _ _ _ _
      | exact ih1 _ _ _ _ _ _ _
      | exact LeO.none _
      | refine LeO.ite ?_ ?_
      | refine LeO.bind ?_ (fun _ => ?_)
set_option maxHeartbeats 8000000 in
set_option maxRecDepth 100000 in
theorem spec_number.calls (k : Nat) (a0 : ByteArray) (a1 : Int) (r1 : Int) (r2 : Bool) (w : World) (h : spec_number.f k a0 a1 = some (r1, r2)) :
    Calls Tryz.prog 37 #[.string a0, .int .i64 a1] w fun e w' => e = .returned (.tuple #[.int .i64 r1, .bool r2]) ∧ Drawn0 w w' := by
  have H : (spec_number.l0 k a0 a1 0 (a0.size : Int) 0) = some (r1, r2) := h
  clear h
  have H' := Aside0.mk H
  clear H
  go_enter Tryz.func37, Tryz.ntmps37
  go_wp2
  go_loopg [6, 10] k (fun kq v6 v10 w' => ∃ (x6_1 : Int) (x10_1 : Int), v6 = .int .i64 x6_1 ∧ v10 = .int .i64 x10_1 ∧ Aside0 (spec_number.l0 kq a0 a1 x6_1 (a0.size : Int) x10_1 = some (r1, r2)) ∧ Aside0 (kq ≤ k) ∧ Drawn0 w w')
  case atStart => exact ⟨(0), (0), (by first | rfl | (simp; done) | (simp [*]; done)), (by first | rfl | (simp; done) | (simp [*]; done)), H', ⟨Nat.le_refl _⟩, by repeat (first | exact Drawn0.refl _ | apply Drawn0.step)⟩
  case round =>
    clear H'
    try clear p2
    obtain ⟨x6_1, x10_1, rfl, rfl, HA, HK1, ⟨m1, rfl⟩⟩ := hrel
    cases gk with
    | zero => exact absurd HA.out (by simp [spec_number.l0])
    | succ k1 =>
      have H := HA.out
      clear HA
      simp only [spec_number.l0] at H
      by_cases c3 : x10_1 < (a0.size : Int)
      · rw [if_pos c3] at H
        have c3b0 : decide (x10_1 < (a0.size : Int)) = true := decide_eq_true c3
        clear c3
        have HC4 := Aside0.mk H
        clear H
        go_upto_region 5 with (fail)
        go_cut [22] (fun v22 wc => ∃ (kq : Nat) (x22_3 : Bool), v22 = .bool x22_3 ∧ Aside0 (spec_number.j1 kq a0 a1 x6_1 x10_1 (a0.size : Int) x10_1 x22_3 = some (r1, r2)) ∧ Aside0 (kq ≤ k1) ∧ Drawn0 w wc)
        case first =>
          have H := HC4.out
          clear HC4
          by_cases c5 : 0 ≤ x10_1
          · rw [if_pos c5] at H
            have c5b0 : decide (0 ≤ x10_1) = true := decide_eq_true c5
            clear c5
            (first | rw [c5b0] | (simp only [i64_w, i32_w]; rw [c5b0]) | skip)
            by_cases c6 : x10_1 < (a0.size : Int)
            · rw [if_pos c6] at H
              have c6b0 : decide (x10_1 < (a0.size : Int)) = true := decide_eq_true c6
              clear c6
              by_cases c8 : (bt a0 x10_1) < 48
              · rw [if_pos c8] at H
                have c8b0 : decide ((bt a0 x10_1) < 48) = true := decide_eq_true c8
                clear c8
                have H' := Aside0.mk H
                clear H
                have p7 : 0 ≤ (x10_1 : Int) := of_decide_eq_true (by first | (with_reducible assumption) | assumption)
                have q7 : x10_1 < (a0.size : Int) := of_decide_eq_true (by first | (with_reducible assumption) | assumption)
                have hx7 := bt_at a0 x10_1
                replace p7 := eq_true p7
                replace q7 := eq_true q7
                go_wp2
                go_meet
                case rel => exact ⟨_, (true), (by first | rfl | (simp; done) | (simp [*]; done)), H', ⟨by have := HK1.out; first | omega | exact Nat.le_refl _⟩, by repeat (first | exact Drawn0.refl _ | apply Drawn0.step)⟩
              · rw [if_neg c8] at H
                have c8b0 : decide ((bt a0 x10_1) < 48) = false := decide_eq_false c8
                clear c8
                have H' := Aside0.mk H
                clear H
                have p7 : 0 ≤ (x10_1 : Int) := of_decide_eq_true (by first | (with_reducible assumption) | assumption)
                have q7 : x10_1 < (a0.size : Int) := of_decide_eq_true (by first | (with_reducible assumption) | assumption)
                have hx7 := bt_at a0 x10_1
                replace p7 := eq_true p7
                replace q7 := eq_true q7
                have p9 : 0 ≤ (x10_1 : Int) := of_decide_eq_true (by first | (with_reducible assumption) | assumption)
                have q9 : x10_1 < (a0.size : Int) := of_decide_eq_true (by first | (with_reducible assumption) | assumption)
                have hx9 := bt_at a0 x10_1
                replace p9 := eq_true p9
                replace q9 := eq_true q9
                go_wp2
                go_meet
                case rel => exact ⟨_, (decide ((bt a0 x10_1) > 57)), (by first | rfl | (simp; done) | (simp [*]; done)), H', ⟨by have := HK1.out; first | omega | exact Nat.le_refl _⟩, by repeat (first | exact Drawn0.refl _ | apply Drawn0.step)⟩
            · rw [if_neg c6] at H
              exact absurd H (by simp)
          · rw [if_neg c5] at H
            exact absurd H (by simp)
        case rest =>
          clear HC4
          try clear p2
          try clear c3
          try clear c3b0
          try clear c5
          try clear c5b0
          try clear c6
          try clear c6b0
          try clear p7
          try clear q7
          try clear hx7
          try clear c8
          try clear c8b0
          try clear p9
          try clear q9
          try clear hx9
          try clear p2
          try clear p7
          try clear p9
          try clear q7
          try clear q9
          obtain ⟨kq, x22_3, rfl, HA, HJ3, ⟨mc3, rfl⟩⟩ := hcut
          cases kq with
          | zero => exact absurd HA.out (by simp [spec_number.j1])
          | succ kj3 =>
            have H := HA.out
            clear HA
            simp only [spec_number.j1] at H
            by_cases c10 : x22_3 = true
            · subst c10
              have H1 : (some (0, false)) = some (r1, r2) := by rw [if_pos rfl] at H; exact H
              clear H
              have H := H1
              clear H1
              simp only [Option.some.injEq, Prod.mk.injEq] at H
              obtain ⟨rfl, rfl⟩ := H
              go_wp2
              go_ret2
              exact ⟨by first | rfl | (simp; done) | (simp [*]; done), by repeat (first | exact Drawn0.refl _ | apply Drawn0.step)⟩
            · replace c10 := Bool.eq_false_iff.mpr c10
              subst c10
              have H1 : (if 0 ≤ x10_1 then (if x10_1 < (a0.size : Int) then (if (wrap64 ((wrap64 (x6_1 * 10)) + (((bt a0 x10_1) - 48) % 256))) > a1 then (some (0, false)) else (spec_number.l0 kj3 a0 a1 (wrap64 ((wrap64 (x6_1 * 10)) + (((bt a0 x10_1) - 48) % 256))) (a0.size : Int) (wrap64 (x10_1 + 1)))) else (none)) else (none)) = some (r1, r2) := by rw [if_neg (show ¬ (false = true) by decide)] at H; exact H
              clear H
              have H := H1
              clear H1
              by_cases c11 : 0 ≤ x10_1
              · rw [if_pos c11] at H
                have c11b0 : decide (0 ≤ x10_1) = true := decide_eq_true c11
                clear c11
                by_cases c12 : x10_1 < (a0.size : Int)
                · rw [if_pos c12] at H
                  have c12b0 : decide (x10_1 < (a0.size : Int)) = true := decide_eq_true c12
                  clear c12
                  by_cases c14 : (wrap64 ((wrap64 (x6_1 * 10)) + (((bt a0 x10_1) - 48) % 256))) > a1
                  · rw [if_pos c14] at H
                    have c14b0 : decide (a1 < (wrap64 ((wrap64 (x6_1 * 10)) + (((bt a0 x10_1) - 48) % 256)))) = true := decide_eq_true c14
                    clear c14
                    simp only [Option.some.injEq, Prod.mk.injEq] at H
                    obtain ⟨rfl, rfl⟩ := H
                    have p13 : 0 ≤ (x10_1 : Int) := of_decide_eq_true (by first | (with_reducible assumption) | assumption)
                    have q13 : x10_1 < (a0.size : Int) := of_decide_eq_true (by first | (with_reducible assumption) | assumption)
                    have hx13 := bt_at a0 x10_1
                    replace p13 := eq_true p13
                    replace q13 := eq_true q13
                    go_wp2
                    go_ret2
                    exact ⟨by first | rfl | (simp; done) | (simp [*]; done), by repeat (first | exact Drawn0.refl _ | apply Drawn0.step)⟩
                  · rw [if_neg c14] at H
                    have c14b0 : decide (a1 < (wrap64 ((wrap64 (x6_1 * 10)) + (((bt a0 x10_1) - 48) % 256)))) = false := decide_eq_false c14
                    clear c14
                    have H' := Aside0.mk H
                    clear H
                    have p13 : 0 ≤ (x10_1 : Int) := of_decide_eq_true (by first | (with_reducible assumption) | assumption)
                    have q13 : x10_1 < (a0.size : Int) := of_decide_eq_true (by first | (with_reducible assumption) | assumption)
                    have hx13 := bt_at a0 x10_1
                    replace p13 := eq_true p13
                    replace q13 := eq_true q13
                    go_wp2
                    go_roundg kj3
                    case measure => have := HK1.out; have := HJ3.out; omega
                    case rel => exact ⟨(wrap64 ((wrap64 (x6_1 * 10)) + (((bt a0 x10_1) - 48) % 256))), (wrap64 (x10_1 + 1)), (by first | rfl | (simp; done) | (simp [*]; done)), (by first | rfl | (simp; done) | (simp [*]; done)), H', ⟨by have := HK1.out; have := HJ3.out; omega⟩, by repeat (first | exact Drawn0.refl _ | apply Drawn0.step)⟩
                · rw [if_neg c12] at H
                  exact absurd H (by simp)
              · rw [if_neg c11] at H
                exact absurd H (by simp)
      · rw [if_neg c3] at H
        have c3b0 : decide (x10_1 < (a0.size : Int)) = false := decide_eq_false c3
        clear c3
        simp only [Option.some.injEq, Prod.mk.injEq] at H
        obtain ⟨rfl, rfl⟩ := H
        go_wp2
        go_ret2
        exact ⟨by first | rfl | (simp; done) | (simp; done) | (simp; cases (a0.toList) <;> rfl), by repeat (first | exact Drawn0.refl _ | apply Drawn0.step)⟩

end Go.Proofs.YtpemdpfageikfaaGreatDoor.Q
/-
  Contracts of spec.Address, Network, begin, Begins and Ends.
  Written by the kit's print.sh for this seat, sections of it laid into this text by a small program (wip/tools/mkq.py); namespace Q.
-/
namespace Go.Proofs.YtpemdpfageikfaaGreatDoor.Q
open Go.RowKit Go.Proofs.YtpemdpfageikfaaGreatDoorW.PrintWords Go.Proofs.YtpemdpfageikfaaGreatDoorW.PrintLast Go.Proofs.YtpemdpfageikfaaGreatDoorW.PrintMore
attribute [local go_sem] max2_int min2_int max_two min_two max_three min_three max_four min_four   -- for this text's walks alone
set_option linter.unusedVariables false
set_option linter.unusedSimpArgs false

/-! ### spec_Address: function 29 -/
def spec_Address.l0 : Nat → Int → List ByteArray → Int → Int → Option (Int × Bool)
  | 0, _, _, _, _ => none
  | k + 1, x5, x15, x16, x17 => if x17 < x16 then (if 0 ≤ x17 then (if x17 < (x15.length : Int) then ((spec_number.f k (rdOf ByteArray.empty x15 x17) 255).bind fun bt278 => (if bt278.2 = true then (if ((rdOf ByteArray.empty x15 x17).size : Int) > 1 then (if 0 < ((rdOf ByteArray.empty x15 x17).size : Int) then (if (bt (rdOf ByteArray.empty x15 x17) 0) = 48 then (some (0, false)) else (spec_Address.l0 k (Go.bits .or .u32 ((x5 * 256) % 4294967296) ((bt278.1) % 4294967296)) x15 x16 (wrap64 (x17 + 1)))) else (none)) else (spec_Address.l0 k (Go.bits .or .u32 ((x5 * 256) % 4294967296) ((bt278.1) % 4294967296)) x15 x16 (wrap64 (x17 + 1)))) else (some (0, false)))) else (none)) else (none)) else (some (x5, true))
def spec_Address.f (k : Nat) (a0 : ByteArray) : Option (Int × Bool) := (spec_Split.f k a0 46).bind fun t274 => (if (t274.length : Int) = 4 then (spec_Address.l0 k 0 t274 (t274.length : Int) 0) else (some (0, false)))
theorem spec_Address.mono_l : ∀ k, (∀ y0 y1 y2 y3, LeO (spec_Address.l0 k y0 y1 y2 y3) (spec_Address.l0 (k + 1) y0 y1 y2 y3))
  | 0 => fun _ _ _ _ r h => by simp [spec_Address.l0] at h
  | k + 1 => by
    have ih0 := spec_Address.mono_l k
    · intro y0 y1 y2 y3
      unfold spec_Address.l0
      repeat' first
      | (with_reducible exact ih0 _ _ _ _)
      | (with_reducible exact spec_Split.mono _ _ _)
      | (with_reducible exact spec_number.mono _ _ _)
      | (with_reducible exact LeO.refl _)
      | (with_reducible exact LeO.none _)
      | (with_reducible refine LeO.ite ?_ ?_)
      | (with_reducible refine LeO.bind ?_ (fun _ => ?_))
      | exact ih0 _ _ _ _
      | exact spec_Split.mono _ _ _
      | exact spec_number.mono _ _ _
      | exact LeO.none _
      | refine LeO.ite ?_ ?_
      | refine LeO.bind ?_ (fun _ => ?_)
theorem spec_Address.mono : ∀ a0 k, LeO (spec_Address.f k a0) (spec_Address.f (k + 1) a0) := by
  intro a0 k
  have ih0 := spec_Address.mono_l k
  unfold spec_Address.f
  repeat' first
      | (with_reducible exact ih0 _ _ _ _)
      | (with_reducible exact spec_Split.mono _ _ _)
      | (with_reducible exact spec_number.mono _ _ _)
      | (with_reducible exact LeO.refl _)
      | (with_reducible exact LeO.none _)
      | (with_reducible refine LeO.ite ?_ ?_)
      | (with_reducible refine LeO.bind ?_ (fun _ => ?_))
      | exact ih0 _ _ _ _
      | exact spec_Split.mono _ _ _
      | exact spec_number.mono _ _ _
      | exact LeO.none _
      | refine LeO.ite ?_ ?_
      | refine LeO.bind ?_ (fun _ => ?_)
set_option maxHeartbeats 8000000 in
set_option maxRecDepth 100000 in
theorem spec_Address.calls (k : Nat) (a0 : ByteArray) (r1 : Int) (r2 : Bool) (w : World) (h : spec_Address.f k a0 = some (r1, r2)) :
    Calls Tryz.prog 29 #[.string a0] w fun e w' => e = .returned (.tuple #[.int .u32 r1, .bool r2]) ∧ Below w.heap.size w w' := by
  have HB := Aside0.mk (Below.refl w.heap.size w)
  have H : ((spec_Split.f k a0 46).bind fun t274 => (if (t274.length : Int) = 4 then (spec_Address.l0 k 0 t274 (t274.length : Int) 0) else (some (0, false)))) = some (r1, r2) := h
  clear h
  replace H := Option.bind_eq_some_iff.mp H
  obtain ⟨t274, A20, H⟩ := H
  replace H : (if (t274.length : Int) = 4 then (spec_Address.l0 k 0 t274 (t274.length : Int) 0) else (some (0, false))) = some (r1, r2) := H
  have A2 := Aside0.mk A20
  clear A20
  by_cases c3 : (t274.length : Int) = 4
  · rw [if_pos c3] at H
    have c3b0 : ((t274.length : Int) == 4) = true := beq_iff_eq.mpr c3
    have c3b1 : ((t274.length : Int) != 4) = false := bne_eq_false_iff_eq.mpr c3
    clear c3
    have H' := Aside0.mk H
    clear H
    go_enter Tryz.func29, Tryz.ntmps29
    go_wp2_with (first | ((with_reducible refine gate_callee (f := 24) rfl ?_); refine goesL_ (some 11) rfl rfl Tryz.func24 (by kernel_rfl) rfl #[.string a0, .int .u8 46] rfl (by (try simp only [List.map_toArray, List.map_cons, List.map_nil]); first | done | rfl | (simp only [List.length_drop, List.length_take]; rfl)) ?_; (with_reducible refine (spec_Split.calls k a0 46 t274 _ A2.out).mono ?_); rintro e w4 ⟨v275, rfl, ho0, hb⟩; refine ⟨_, rfl, ?_⟩; have n0_ := Aside0.mk (Kd.R_lower ho0 (below_size (by repeat (first | (with_reducible first | exact HB.out | apply below_alloc | apply pw_below_drewN | apply below_drew1) | exact HB.out)))); have n1_ := Aside0.mk (below_step (by repeat (first | (with_reducible first | exact HB.out | apply below_alloc | apply pw_below_drewN | apply below_drew1) | exact HB.out)) hb); clear HB; have HO276 := n0_; have HB := n1_; clear n0_ n1_; (try clear hb); (try clear hb2); (try clear hk); (try clear hi); (try clear ho0); obtain ⟨Ao5, co5, eo5⟩ := Kd.R_slice HO276.out; subst eo5))
    go_loopg [5, 17] k (fun kq v5 v17 w' => ∃ (x5_1 : Int) (x17_1 : Int), v5 = .int .u32 x5_1 ∧ v17 = .int .i64 x17_1 ∧ Aside0 (spec_Address.l0 kq x5_1 t274 (t274.length : Int) x17_1 = some (r1, r2)) ∧ Aside0 (kq ≤ k) ∧ Aside0 (Kd.R Kd.string 9 w' w.heap.size (fun _ => True) (.slice Ao5 t274.length co5) t274) ∧ Aside0 (Below w.heap.size w w'))
    case atStart => exact ⟨(0), (0), (by first | rfl | (simp; done) | (simp [*]; done)), (by first | rfl | (simp; done) | (simp [*]; done)), H', ⟨Nat.le_refl _⟩, ⟨by (with_reducible repeat (first | apply Kd.R_alloc | apply Kd.R_drewN | apply Kd.R_drew)); exact HO276.out⟩, ⟨by repeat (first | (with_reducible first | exact HB.out | apply below_alloc | apply pw_below_drewN | apply below_drew1) | exact HB.out)⟩⟩
    case round =>
      clear H'
      try clear c2
      try clear p2
      try clear c3
      try clear c3b0
      try clear c3b1
      obtain ⟨x5_1, x17_1, rfl, rfl, HA, HK1, HO_15, HB⟩ := hrel
      cases gk with
      | zero => exact absurd HA.out (by simp [spec_Address.l0])
      | succ k1 =>
        have H := HA.out
        clear HA
        simp only [spec_Address.l0] at H
        by_cases c6 : x17_1 < (t274.length : Int)
        · rw [if_pos c6] at H
          have c6b0 : decide (x17_1 < (t274.length : Int)) = true := decide_eq_true c6
          clear c6
          by_cases c7 : 0 ≤ x17_1
          · rw [if_pos c7] at H
            have c7b0 : decide (0 ≤ x17_1) = true := decide_eq_true c7
            clear c7
            by_cases c8 : x17_1 < (t274.length : Int)
            · rw [if_pos c8] at H
              have c8b0 : decide (x17_1 < (t274.length : Int)) = true := decide_eq_true c8
              clear c8
              replace H := Option.bind_eq_some_iff.mp H
              obtain ⟨⟨t278, t279⟩, A90, H⟩ := H
              replace H : (if t279 = true then (if ((rdOf ByteArray.empty t274 x17_1).size : Int) > 1 then (if 0 < ((rdOf ByteArray.empty t274 x17_1).size : Int) then (if (bt (rdOf ByteArray.empty t274 x17_1) 0) = 48 then (some (0, false)) else (spec_Address.l0 k1 (Go.bits .or .u32 ((x5_1 * 256) % 4294967296) ((t278) % 4294967296)) t274 (t274.length : Int) (wrap64 (x17_1 + 1)))) else (none)) else (spec_Address.l0 k1 (Go.bits .or .u32 ((x5_1 * 256) % 4294967296) ((t278) % 4294967296)) t274 (t274.length : Int) (wrap64 (x17_1 + 1)))) else (some (0, false))) = some (r1, r2) := H
              have A9 := Aside0.mk A90
              clear A90
              by_cases c10 : t279 = true
              · subst c10
                have H1 : (if ((rdOf ByteArray.empty t274 x17_1).size : Int) > 1 then (if 0 < ((rdOf ByteArray.empty t274 x17_1).size : Int) then (if (bt (rdOf ByteArray.empty t274 x17_1) 0) = 48 then (some (0, false)) else (spec_Address.l0 k1 (Go.bits .or .u32 ((x5_1 * 256) % 4294967296) ((t278) % 4294967296)) t274 (t274.length : Int) (wrap64 (x17_1 + 1)))) else (none)) else (spec_Address.l0 k1 (Go.bits .or .u32 ((x5_1 * 256) % 4294967296) ((t278) % 4294967296)) t274 (t274.length : Int) (wrap64 (x17_1 + 1)))) = some (r1, r2) := by rw [if_pos rfl] at H; exact H
                clear H
                have H := H1
                clear H1
                by_cases c11 : ((rdOf ByteArray.empty t274 x17_1).size : Int) > 1
                · rw [if_pos c11] at H
                  have c11b0 : decide (1 < ((rdOf ByteArray.empty t274 x17_1).size : Int)) = true := decide_eq_true c11
                  have c11b1 : decide (1 < (rdOf ByteArray.empty t274 x17_1).size) = true := decide_eq_true (by omega)
                  clear c11
                  by_cases c12 : 0 < ((rdOf ByteArray.empty t274 x17_1).size : Int)
                  · rw [if_pos c12] at H
                    have c12b0 : decide (0 < ((rdOf ByteArray.empty t274 x17_1).size : Int)) = true := decide_eq_true c12
                    have c12b1 : decide (0 < (rdOf ByteArray.empty t274 x17_1).size) = true := decide_eq_true (by omega)
                    clear c12
                    by_cases c14 : (bt (rdOf ByteArray.empty t274 x17_1) 0) = 48
                    · rw [if_pos c14] at H
                      have c14b0 : ((bt (rdOf ByteArray.empty t274 x17_1) 0) == 48) = true := beq_iff_eq.mpr c14
                      have c14b1 : ((bt (rdOf ByteArray.empty t274 x17_1) 0) != 48) = false := bne_eq_false_iff_eq.mpr c14
                      clear c14
                      simp only [Option.some.injEq, Prod.mk.injEq] at H
                      obtain ⟨rfl, rfl⟩ := H
                      have p277 : 0 ≤ (x17_1 : Int) := of_decide_eq_true (by first | (with_reducible assumption) | assumption)
                      have q277 : x17_1 < (t274.length : Int) := of_decide_eq_true (by first | (with_reducible assumption) | assumption)
                      obtain ⟨ad277, e277, hx277_0⟩ := Kd.at_string (Kd.R_reads' HO_15.out).2.2 x17_1 p277 q277
                      cases e277
                      replace p277 := eq_true p277
                      replace q277 := eq_true q277
                      go_wp2_with (first | ((with_reducible refine gate_callee (f := 37) rfl ?_); refine goesL_ (some 23) rfl rfl Tryz.func37 (by kernel_rfl) rfl #[.string (rdOf ByteArray.empty t274 x17_1), .int .i64 255] rfl (by (try simp only [List.map_toArray, List.map_cons, List.map_nil]); first | done | rfl | (simp only [List.length_drop, List.length_take]; rfl)) ?_; (with_reducible refine (spec_number.calls k1 (rdOf ByteArray.empty t274 x17_1) 255 t278 true _ A9.out).mono ?_); rintro e w' ⟨rfl, ⟨nd, rfl⟩⟩; refine ⟨_, rfl, ?_⟩; have p13 : 0 ≤ (0 : Int) := (by omega); have q13 : 0 < (rdOf ByteArray.empty t274 x17_1).size := (by have : (0 : Int) < ((rdOf ByteArray.empty t274 x17_1).size : Int) := of_decide_eq_true (by first | (with_reducible assumption) | assumption); omega); have hx13 : ∀ h : 0 < (rdOf ByteArray.empty t274 x17_1).size, (((rdOf ByteArray.empty t274 x17_1)[0]'h).toNat : Int) = bt (rdOf ByteArray.empty t274 x17_1) 0 := bt_at (rdOf ByteArray.empty t274 x17_1) 0; clear p13; have qi13 : (0 < ((rdOf ByteArray.empty t274 x17_1).size : Int)) = True := eq_true (of_decide_eq_true (by first | (with_reducible assumption) | assumption)); replace q13 := eq_true q13))
                      go_ret2
                      exact ⟨by first | rfl | (simp [errW_none, errW_some] <;> rfl) | (simp [*, errW_none, errW_some] <;> rfl), by repeat (first | (with_reducible first | exact HB.out | apply below_alloc | apply pw_below_drewN | apply below_drew1) | exact HB.out)⟩
                    · rw [if_neg c14] at H
                      have c14b0 : ((bt (rdOf ByteArray.empty t274 x17_1) 0) == 48) = false := beq_eq_false_iff_ne.mpr c14
                      have c14b1 : ((bt (rdOf ByteArray.empty t274 x17_1) 0) != 48) = true := bne_iff_ne.mpr c14
                      have H' := Aside0.mk H
                      clear H
                      have p277 : 0 ≤ (x17_1 : Int) := of_decide_eq_true (by first | (with_reducible assumption) | assumption)
                      have q277 : x17_1 < (t274.length : Int) := of_decide_eq_true (by first | (with_reducible assumption) | assumption)
                      obtain ⟨ad277, e277, hx277_0⟩ := Kd.at_string (Kd.R_reads' HO_15.out).2.2 x17_1 p277 q277
                      cases e277
                      replace p277 := eq_true p277
                      replace q277 := eq_true q277
                      go_wp2_with (first | ((with_reducible refine gate_callee (f := 37) rfl ?_); refine goesL_ (some 23) rfl rfl Tryz.func37 (by kernel_rfl) rfl #[.string (rdOf ByteArray.empty t274 x17_1), .int .i64 255] rfl (by (try simp only [List.map_toArray, List.map_cons, List.map_nil]); first | done | rfl | (simp only [List.length_drop, List.length_take]; rfl)) ?_; (with_reducible refine (spec_number.calls k1 (rdOf ByteArray.empty t274 x17_1) 255 t278 true _ A9.out).mono ?_); rintro e w' ⟨rfl, ⟨nd, rfl⟩⟩; refine ⟨_, rfl, ?_⟩; have p13 : 0 ≤ (0 : Int) := (by omega); have q13 : 0 < (rdOf ByteArray.empty t274 x17_1).size := (by have : (0 : Int) < ((rdOf ByteArray.empty t274 x17_1).size : Int) := of_decide_eq_true (by first | (with_reducible assumption) | assumption); omega); have hx13 : ∀ h : 0 < (rdOf ByteArray.empty t274 x17_1).size, (((rdOf ByteArray.empty t274 x17_1)[0]'h).toNat : Int) = bt (rdOf ByteArray.empty t274 x17_1) 0 := bt_at (rdOf ByteArray.empty t274 x17_1) 0; clear p13; have qi13 : (0 < ((rdOf ByteArray.empty t274 x17_1).size : Int)) = True := eq_true (of_decide_eq_true (by first | (with_reducible assumption) | assumption)); replace q13 := eq_true q13))
                      go_roundg k1
                      case measure => have := HK1.out; omega
                      case rel => exact ⟨(Go.bits .or .u32 ((x5_1 * 256) % 4294967296) ((t278) % 4294967296)), (wrap64 (x17_1 + 1)), (by first | rfl | (simp; done) | (simp [*]; done)), (by first | rfl | (simp; done) | (simp [*]; done)), H', ⟨by have := HK1.out; omega⟩, ⟨by (with_reducible repeat (first | apply Kd.R_alloc | apply Kd.R_drewN | apply Kd.R_drew)); exact HO_15.out⟩, ⟨by repeat (first | (with_reducible first | exact HB.out | apply below_alloc | apply pw_below_drewN | apply below_drew1) | exact HB.out)⟩⟩
                  · rw [if_neg c12] at H
                    exact absurd H (by simp)
                · rw [if_neg c11] at H
                  have c11b0 : decide (1 < ((rdOf ByteArray.empty t274 x17_1).size : Int)) = false := decide_eq_false c11
                  have c11b1 : decide (1 < (rdOf ByteArray.empty t274 x17_1).size) = false := decide_eq_false (by omega)
                  clear c11
                  have H' := Aside0.mk H
                  clear H
                  have p277 : 0 ≤ (x17_1 : Int) := of_decide_eq_true (by first | (with_reducible assumption) | assumption)
                  have q277 : x17_1 < (t274.length : Int) := of_decide_eq_true (by first | (with_reducible assumption) | assumption)
                  obtain ⟨ad277, e277, hx277_0⟩ := Kd.at_string (Kd.R_reads' HO_15.out).2.2 x17_1 p277 q277
                  cases e277
                  replace p277 := eq_true p277
                  replace q277 := eq_true q277
                  go_wp2_with (first | ((with_reducible refine gate_callee (f := 37) rfl ?_); refine goesL_ (some 23) rfl rfl Tryz.func37 (by kernel_rfl) rfl #[.string (rdOf ByteArray.empty t274 x17_1), .int .i64 255] rfl (by (try simp only [List.map_toArray, List.map_cons, List.map_nil]); first | done | rfl | (simp only [List.length_drop, List.length_take]; rfl)) ?_; (with_reducible refine (spec_number.calls k1 (rdOf ByteArray.empty t274 x17_1) 255 t278 true _ A9.out).mono ?_); rintro e w' ⟨rfl, ⟨nd, rfl⟩⟩; refine ⟨_, rfl, ?_⟩))
                  go_roundg k1
                  case measure => have := HK1.out; omega
                  case rel => exact ⟨(Go.bits .or .u32 ((x5_1 * 256) % 4294967296) ((t278) % 4294967296)), (wrap64 (x17_1 + 1)), (by first | rfl | (simp; done) | (simp [*]; done)), (by first | rfl | (simp; done) | (simp [*]; done)), H', ⟨by have := HK1.out; omega⟩, ⟨by (with_reducible repeat (first | apply Kd.R_alloc | apply Kd.R_drewN | apply Kd.R_drew)); exact HO_15.out⟩, ⟨by repeat (first | (with_reducible first | exact HB.out | apply below_alloc | apply pw_below_drewN | apply below_drew1) | exact HB.out)⟩⟩
              · replace c10 := Bool.eq_false_iff.mpr c10
                subst c10
                have H1 : (some (0, false)) = some (r1, r2) := by rw [if_neg (show ¬ (false = true) by decide)] at H; exact H
                clear H
                have H := H1
                clear H1
                simp only [Option.some.injEq, Prod.mk.injEq] at H
                obtain ⟨rfl, rfl⟩ := H
                have p277 : 0 ≤ (x17_1 : Int) := of_decide_eq_true (by first | (with_reducible assumption) | assumption)
                have q277 : x17_1 < (t274.length : Int) := of_decide_eq_true (by first | (with_reducible assumption) | assumption)
                obtain ⟨ad277, e277, hx277_0⟩ := Kd.at_string (Kd.R_reads' HO_15.out).2.2 x17_1 p277 q277
                cases e277
                replace p277 := eq_true p277
                replace q277 := eq_true q277
                go_wp2_with (first | ((with_reducible refine gate_callee (f := 37) rfl ?_); refine goesL_ (some 23) rfl rfl Tryz.func37 (by kernel_rfl) rfl #[.string (rdOf ByteArray.empty t274 x17_1), .int .i64 255] rfl (by (try simp only [List.map_toArray, List.map_cons, List.map_nil]); first | done | rfl | (simp only [List.length_drop, List.length_take]; rfl)) ?_; (with_reducible refine (spec_number.calls k1 (rdOf ByteArray.empty t274 x17_1) 255 t278 false _ A9.out).mono ?_); rintro e w' ⟨rfl, ⟨nd, rfl⟩⟩; refine ⟨_, rfl, ?_⟩))
                go_ret2
                exact ⟨by first | rfl | (simp [errW_none, errW_some] <;> rfl) | (simp [*, errW_none, errW_some] <;> rfl), by repeat (first | (with_reducible first | exact HB.out | apply below_alloc | apply pw_below_drewN | apply below_drew1) | exact HB.out)⟩
            · rw [if_neg c8] at H
              exact absurd H (by simp)
          · rw [if_neg c7] at H
            exact absurd H (by simp)
        · rw [if_neg c6] at H
          have c6b0 : decide (x17_1 < (t274.length : Int)) = false := decide_eq_false c6
          clear c6
          simp only [Option.some.injEq, Prod.mk.injEq] at H
          obtain ⟨rfl, rfl⟩ := H
          go_wp2
          go_ret2
          exact ⟨by first | rfl | (simp [errW_none, errW_some] <;> rfl) | (simp [*, errW_none, errW_some] <;> rfl), by repeat (first | (with_reducible first | exact HB.out | apply below_alloc | apply pw_below_drewN | apply below_drew1) | exact HB.out)⟩
  · rw [if_neg c3] at H
    have c3b0 : ((t274.length : Int) == 4) = false := beq_eq_false_iff_ne.mpr c3
    have c3b1 : ((t274.length : Int) != 4) = true := bne_iff_ne.mpr c3
    simp only [Option.some.injEq, Prod.mk.injEq] at H
    obtain ⟨rfl, rfl⟩ := H
    go_enter Tryz.func29, Tryz.ntmps29
    go_wp2_with (first | ((with_reducible refine gate_callee (f := 24) rfl ?_); refine goesL_ (some 11) rfl rfl Tryz.func24 (by kernel_rfl) rfl #[.string a0, .int .u8 46] rfl (by (try simp only [List.map_toArray, List.map_cons, List.map_nil]); first | done | rfl | (simp only [List.length_drop, List.length_take]; rfl)) ?_; (with_reducible refine (spec_Split.calls k a0 46 t274 _ A2.out).mono ?_); rintro e w15 ⟨v275, rfl, ho0, hb⟩; refine ⟨_, rfl, ?_⟩; have n0_ := Aside0.mk (Kd.R_lower ho0 (below_size (by repeat (first | (with_reducible first | exact HB.out | apply below_alloc | apply pw_below_drewN | apply below_drew1) | exact HB.out)))); have n1_ := Aside0.mk (below_step (by repeat (first | (with_reducible first | exact HB.out | apply below_alloc | apply pw_below_drewN | apply below_drew1) | exact HB.out)) hb); clear HB; have HO276 := n0_; have HB := n1_; clear n0_ n1_; (try clear hb); (try clear hb2); (try clear hk); (try clear hi); (try clear ho0); obtain ⟨Ao16, co16, eo16⟩ := Kd.R_slice HO276.out; subst eo16))
    go_ret2
    exact ⟨by first | rfl | (simp [errW_none, errW_some] <;> rfl) | (simp [*, errW_none, errW_some] <;> rfl), by repeat (first | (with_reducible first | exact HB.out | apply below_alloc | apply pw_below_drewN | apply below_drew1) | exact HB.out)⟩

/-! ### spec_Network: function 38 -/
def spec_Network.f (k : Nat) (a0 : ByteArray) : Option (Int × Int × Bool) := (spec_Cut.f k a0 47).bind fun bt280 => ((spec_Address.f k bt280.1).bind fun bt283 => ((spec_number.f k bt280.2.1 32).bind fun bt285 => (if bt280.2.2 = true then (if bt283.2 = true then (some (bt283.1, bt285.1, bt285.2)) else (some (bt283.1, bt285.1, false))) else (some (bt283.1, bt285.1, false)))))
theorem spec_Network.mono : ∀ a0 k, LeO (spec_Network.f k a0) (spec_Network.f (k + 1) a0) := by
  intro a0 k
  unfold spec_Network.f
  repeat' first
      | (with_reducible exact spec_Address.mono _ _)
      | (with_reducible exact spec_Cut.mono _ _ _)
      | (with_reducible exact spec_number.mono _ _ _)
      | (with_reducible exact LeO.refl _)
      | (with_reducible exact LeO.none _)
      | (with_reducible refine LeO.ite ?_ ?_)
      | (with_reducible refine LeO.bind ?_ (fun _ => ?_))
      | exact spec_Address.mono _ _
      | exact spec_Cut.mono _ _ _
      | exact spec_number.mono _ _ _
      | exact LeO.none _
      | refine LeO.ite ?_ ?_
      | refine LeO.bind ?_ (fun _ => ?_)
set_option maxHeartbeats 8000000 in
set_option maxRecDepth 100000 in
theorem spec_Network.calls (k : Nat) (a0 : ByteArray) (r1 : Int) (r2 : Int) (r3 : Bool) (w : World) (h : spec_Network.f k a0 = some (r1, r2, r3)) :
    Calls Tryz.prog 38 #[.string a0] w fun e w' => e = .returned (.tuple #[.int .u32 r1, .int .i64 r2, .bool r3]) ∧ Below w.heap.size w w' := by
  have HB := Aside0.mk (Below.refl w.heap.size w)
  have H : ((spec_Cut.f k a0 47).bind fun bt280 => ((spec_Address.f k bt280.1).bind fun bt283 => ((spec_number.f k bt280.2.1 32).bind fun bt285 => (if bt280.2.2 = true then (if bt283.2 = true then (some (bt283.1, bt285.1, bt285.2)) else (some (bt283.1, bt285.1, false))) else (some (bt283.1, bt285.1, false)))))) = some (r1, r2, r3) := h
  clear h
  replace H := Option.bind_eq_some_iff.mp H
  obtain ⟨⟨t280, t281, t282⟩, A20, H⟩ := H
  replace H : ((spec_Address.f k t280).bind fun bt283 => ((spec_number.f k t281 32).bind fun bt285 => (if t282 = true then (if bt283.2 = true then (some (bt283.1, bt285.1, bt285.2)) else (some (bt283.1, bt285.1, false))) else (some (bt283.1, bt285.1, false))))) = some (r1, r2, r3) := H
  have A2 := Aside0.mk A20
  clear A20
  replace H := Option.bind_eq_some_iff.mp H
  obtain ⟨⟨t283, t284⟩, A30, H⟩ := H
  replace H : ((spec_number.f k t281 32).bind fun bt285 => (if t282 = true then (if t284 = true then (some (t283, bt285.1, bt285.2)) else (some (t283, bt285.1, false))) else (some (t283, bt285.1, false)))) = some (r1, r2, r3) := H
  have A3 := Aside0.mk A30
  clear A30
  replace H := Option.bind_eq_some_iff.mp H
  obtain ⟨⟨t285, t286⟩, A40, H⟩ := H
  replace H : (if t282 = true then (if t284 = true then (some (t283, t285, t286)) else (some (t283, t285, false))) else (some (t283, t285, false))) = some (r1, r2, r3) := H
  have A4 := Aside0.mk A40
  clear A40
  by_cases c5 : t282 = true
  · subst c5
    have H1 : (if t284 = true then (some (t283, t285, t286)) else (some (t283, t285, false))) = some (r1, r2, r3) := by rw [if_pos rfl] at H; exact H
    clear H
    have H := H1
    clear H1
    by_cases c6 : t284 = true
    · subst c6
      have H1 : (some (t283, t285, t286)) = some (r1, r2, r3) := by rw [if_pos rfl] at H; exact H
      clear H
      have H := H1
      clear H1
      simp only [Option.some.injEq, Prod.mk.injEq] at H
      obtain ⟨rfl, rfl, rfl⟩ := H
      go_enter Tryz.func38, Tryz.ntmps38
      go_wp2_with (first | ((with_reducible refine gate_callee (f := 26) rfl ?_); refine goesL_ (some 14) rfl rfl Tryz.func26 (by kernel_rfl) rfl #[.string a0, .int .u8 47] rfl (by (try simp only [List.map_toArray, List.map_cons, List.map_nil]); first | done | rfl | (simp only [List.length_drop, List.length_take]; rfl)) ?_; (with_reducible refine (spec_Cut.calls k a0 47 t280 t281 true _ A2.out).mono ?_); rintro e w' ⟨rfl, ⟨nd, rfl⟩⟩; refine ⟨_, rfl, ?_⟩) | ((with_reducible refine gate_callee (f := 29) rfl ?_); refine goesL_ (some 20) rfl rfl Tryz.func29 (by kernel_rfl) rfl #[.string t280] rfl (by (try simp only [List.map_toArray, List.map_cons, List.map_nil]); first | done | rfl | (simp only [List.length_drop, List.length_take]; rfl)) ?_; (with_reducible refine (spec_Address.calls k t280 t283 true _ A3.out).mono ?_); rintro e w7 ⟨rfl, hb⟩; refine ⟨_, rfl, ?_⟩; have n0_ := Aside0.mk (below_step (by repeat (first | (with_reducible first | exact HB.out | apply below_alloc | apply pw_below_drewN | apply below_drew1) | exact HB.out)) hb); clear HB; have HB := n0_; clear n0_; (try clear hb); (try clear hb2); (try clear hk); (try clear hi)) | ((with_reducible refine gate_callee (f := 37) rfl ?_); refine goesL_ (some 25) rfl rfl Tryz.func37 (by kernel_rfl) rfl #[.string t281, .int .i64 32] rfl (by (try simp only [List.map_toArray, List.map_cons, List.map_nil]); first | done | rfl | (simp only [List.length_drop, List.length_take]; rfl)) ?_; (with_reducible refine (spec_number.calls k t281 32 t285 t286 _ A4.out).mono ?_); rintro e w' ⟨rfl, ⟨nd, rfl⟩⟩; refine ⟨_, rfl, ?_⟩))
      go_ret3
      exact ⟨by first | rfl | (simp [errW_none, errW_some] <;> rfl) | (simp [*, errW_none, errW_some] <;> rfl), by repeat (first | (with_reducible first | exact HB.out | apply below_alloc | apply pw_below_drewN | apply below_drew1) | exact HB.out)⟩
    · replace c6 := Bool.eq_false_iff.mpr c6
      subst c6
      have H1 : (some (t283, t285, false)) = some (r1, r2, r3) := by rw [if_neg (show ¬ (false = true) by decide)] at H; exact H
      clear H
      have H := H1
      clear H1
      simp only [Option.some.injEq, Prod.mk.injEq] at H
      obtain ⟨rfl, rfl, rfl⟩ := H
      go_enter Tryz.func38, Tryz.ntmps38
      go_wp2_with (first | ((with_reducible refine gate_callee (f := 26) rfl ?_); refine goesL_ (some 14) rfl rfl Tryz.func26 (by kernel_rfl) rfl #[.string a0, .int .u8 47] rfl (by (try simp only [List.map_toArray, List.map_cons, List.map_nil]); first | done | rfl | (simp only [List.length_drop, List.length_take]; rfl)) ?_; (with_reducible refine (spec_Cut.calls k a0 47 t280 t281 true _ A2.out).mono ?_); rintro e w' ⟨rfl, ⟨nd, rfl⟩⟩; refine ⟨_, rfl, ?_⟩) | ((with_reducible refine gate_callee (f := 29) rfl ?_); refine goesL_ (some 20) rfl rfl Tryz.func29 (by kernel_rfl) rfl #[.string t280] rfl (by (try simp only [List.map_toArray, List.map_cons, List.map_nil]); first | done | rfl | (simp only [List.length_drop, List.length_take]; rfl)) ?_; (with_reducible refine (spec_Address.calls k t280 t283 false _ A3.out).mono ?_); rintro e w8 ⟨rfl, hb⟩; refine ⟨_, rfl, ?_⟩; have n0_ := Aside0.mk (below_step (by repeat (first | (with_reducible first | exact HB.out | apply below_alloc | apply pw_below_drewN | apply below_drew1) | exact HB.out)) hb); clear HB; have HB := n0_; clear n0_; (try clear hb); (try clear hb2); (try clear hk); (try clear hi)) | ((with_reducible refine gate_callee (f := 37) rfl ?_); refine goesL_ (some 25) rfl rfl Tryz.func37 (by kernel_rfl) rfl #[.string t281, .int .i64 32] rfl (by (try simp only [List.map_toArray, List.map_cons, List.map_nil]); first | done | rfl | (simp only [List.length_drop, List.length_take]; rfl)) ?_; (with_reducible refine (spec_number.calls k t281 32 t285 t286 _ A4.out).mono ?_); rintro e w' ⟨rfl, ⟨nd, rfl⟩⟩; refine ⟨_, rfl, ?_⟩))
      go_ret3
      exact ⟨by first | rfl | (simp [errW_none, errW_some] <;> rfl) | (simp [*, errW_none, errW_some] <;> rfl), by repeat (first | (with_reducible first | exact HB.out | apply below_alloc | apply pw_below_drewN | apply below_drew1) | exact HB.out)⟩
  · replace c5 := Bool.eq_false_iff.mpr c5
    subst c5
    have H1 : (some (t283, t285, false)) = some (r1, r2, r3) := by rw [if_neg (show ¬ (false = true) by decide)] at H; exact H
    clear H
    have H := H1
    clear H1
    simp only [Option.some.injEq, Prod.mk.injEq] at H
    obtain ⟨rfl, rfl, rfl⟩ := H
    go_enter Tryz.func38, Tryz.ntmps38
    go_wp2_with (first | ((with_reducible refine gate_callee (f := 26) rfl ?_); refine goesL_ (some 14) rfl rfl Tryz.func26 (by kernel_rfl) rfl #[.string a0, .int .u8 47] rfl (by (try simp only [List.map_toArray, List.map_cons, List.map_nil]); first | done | rfl | (simp only [List.length_drop, List.length_take]; rfl)) ?_; (with_reducible refine (spec_Cut.calls k a0 47 t280 t281 false _ A2.out).mono ?_); rintro e w' ⟨rfl, ⟨nd, rfl⟩⟩; refine ⟨_, rfl, ?_⟩) | ((with_reducible refine gate_callee (f := 29) rfl ?_); refine goesL_ (some 20) rfl rfl Tryz.func29 (by kernel_rfl) rfl #[.string t280] rfl (by (try simp only [List.map_toArray, List.map_cons, List.map_nil]); first | done | rfl | (simp only [List.length_drop, List.length_take]; rfl)) ?_; (with_reducible refine (spec_Address.calls k t280 t283 t284 _ A3.out).mono ?_); rintro e w9 ⟨rfl, hb⟩; refine ⟨_, rfl, ?_⟩; have n0_ := Aside0.mk (below_step (by repeat (first | (with_reducible first | exact HB.out | apply below_alloc | apply pw_below_drewN | apply below_drew1) | exact HB.out)) hb); clear HB; have HB := n0_; clear n0_; (try clear hb); (try clear hb2); (try clear hk); (try clear hi)) | ((with_reducible refine gate_callee (f := 37) rfl ?_); refine goesL_ (some 25) rfl rfl Tryz.func37 (by kernel_rfl) rfl #[.string t281, .int .i64 32] rfl (by (try simp only [List.map_toArray, List.map_cons, List.map_nil]); first | done | rfl | (simp only [List.length_drop, List.length_take]; rfl)) ?_; (with_reducible refine (spec_number.calls k t281 32 t285 t286 _ A4.out).mono ?_); rintro e w' ⟨rfl, ⟨nd, rfl⟩⟩; refine ⟨_, rfl, ?_⟩))
    go_ret3
    exact ⟨by first | rfl | (simp [errW_none, errW_some] <;> rfl) | (simp [*, errW_none, errW_some] <;> rfl), by repeat (first | (with_reducible first | exact HB.out | apply below_alloc | apply pw_below_drewN | apply below_drew1) | exact HB.out)⟩

/-! ### spec_begin: function 39 -/
def spec_begin.f (a0 : Int) (a1 : Int) : Option (Int) := if 0 ≤ (wrap64 (32 - a1)) then (some (shr .u32 a0 (wrap64 (32 - a1)))) else (none)
set_option maxHeartbeats 8000000 in
set_option maxRecDepth 100000 in
theorem spec_begin.calls (a0 : Int) (a1 : Int) (r : Int) (w : World) (h : spec_begin.f a0 a1 = some r) :
    Calls Tryz.prog 39 #[.int .u32 a0, .int .i64 a1] w fun e w' => e = .returned (.int .u32 r) ∧ Drawn0 w w' := by
  have H : (if 0 ≤ (wrap64 (32 - a1)) then (some (shr .u32 a0 (wrap64 (32 - a1)))) else (none)) = some r := h
  clear h
  obtain ⟨ji3, hji3⟩ : ∃ j_ : Int, (wrap64 (32 - a1)) = j_ := ⟨_, rfl⟩
  replace H : (if 0 ≤ (ji3) then (some (shr .u32 a0 (ji3))) else (none)) = some r := by first | (rw [hji3] at H; exact H) | (simp only [hji3] at H ⊢; exact H)
  have hji3w : (IntKind.i64.wrap (32 - a1)) = ji3 := (i64_w _).trans hji3
  by_cases c4 : 0 ≤ (ji3)
  · rw [if_pos c4] at H
    have c4b0 := eq_true c4
    have c4b1 : decide (0 ≤ (ji3)) = true := decide_eq_true c4
    clear c4
    obtain ⟨ji5, hji5⟩ : ∃ j_ : Int, (shr .u32 a0 (ji3)) = j_ := ⟨_, rfl⟩
    replace H : (some ji5) = some r := by first | (rw [hji5] at H; exact H) | (simp only [hji5] at H ⊢; exact H)
    have hji5_ : (a0 / 2 ^ min (ji3).toNat 32) = ji5 := hji5
    have hji5z : (ji3) ≤ 32 → (a0 / 2 ^ (ji3).toNat) = ji5 := shr_small hji5
    obtain rfl := Option.some.inj H
    go_enter Tryz.func39, Tryz.ntmps39
    go_wp2
    go_ret
    exact ⟨by first | rfl | (simp; done) | (simp only [← hji3, ← hji5] <;> (first | rfl | simp)) | (simp [*]; done), by repeat (first | exact Drawn0.refl _ | apply Drawn0.step)⟩
  · rw [if_neg c4] at H
    exact absurd H (by simp)

/-! ### spec_Begins: function 40 -/
def spec_Begins.f (a0 : ByteArray) (a1 : ByteArray) : Option (Bool) := if (a0.size : Int) ≥ (a1.size : Int) then (if 0 ≤ (a1.size : Int) then (if (a1.size : Int) ≤ (a0.size : Int) then (some ((a0.extract 0 ((a1.size : Int) : Int).toNat).toList == a1.toList)) else (none)) else (none)) else (some false)
set_option maxHeartbeats 8000000 in
set_option maxRecDepth 100000 in
theorem spec_Begins.calls (a0 : ByteArray) (a1 : ByteArray) (r : Bool) (w : World) (h : spec_Begins.f a0 a1 = some r) :
    Calls Tryz.prog 40 #[.string a0, .string a1] w fun e w' => e = .returned (.bool r) ∧ Drawn0 w w' := by
  have H : (if (a0.size : Int) ≥ (a1.size : Int) then (if 0 ≤ (a1.size : Int) then (if (a1.size : Int) ≤ (a0.size : Int) then (some ((a0.extract 0 ((a1.size : Int) : Int).toNat).toList == a1.toList)) else (none)) else (none)) else (some false)) = some r := h
  clear h
  by_cases c3 : (a0.size : Int) ≥ (a1.size : Int)
  · rw [if_pos c3] at H
    have c3b0 : decide ((a1.size : Int) ≤ (a0.size : Int)) = true := decide_eq_true c3
    have c3b1 : decide (a1.size ≤ a0.size) = true := decide_eq_true (Int.ofNat_le.mp c3)
    clear c3
    by_cases c4 : 0 ≤ (a1.size : Int)
    · rw [if_pos c4] at H
      have c4b0 := eq_true c4
      have c4b1 : decide (0 ≤ (a1.size : Int)) = true := decide_eq_true c4
      clear c4
      by_cases c5 : (a1.size : Int) ≤ (a0.size : Int)
      · rw [if_pos c5] at H
        have c5b0 := eq_true c5
        have c5b1 : decide ((a1.size : Int) ≤ (a0.size : Int)) = true := decide_eq_true c5
        clear c5
        obtain rfl := Option.some.inj H
        go_enter Tryz.func40, Tryz.ntmps40
        go_wp2
        go_ret
        exact ⟨by first | rfl | (simp; done) | (simp [*]; done), by repeat (first | exact Drawn0.refl _ | apply Drawn0.step)⟩
      · rw [if_neg c5] at H
        exact absurd H (by simp)
    · rw [if_neg c4] at H
      exact absurd H (by simp)
  · rw [if_neg c3] at H
    have c3b0 : decide ((a1.size : Int) ≤ (a0.size : Int)) = false := decide_eq_false c3
    have c3b1 : decide (a1.size ≤ a0.size) = false := decide_eq_false (fun h => c3 (Int.ofNat_le.mpr h))
    clear c3
    obtain rfl := Option.some.inj H
    go_enter Tryz.func40, Tryz.ntmps40
    go_wp2
    go_ret
    exact ⟨by first | rfl | (simp; done) | (simp [*]; done), by repeat (first | exact Drawn0.refl _ | apply Drawn0.step)⟩

/-! ### spec_Ends: function 41 -/
def spec_Ends.f (a0 : ByteArray) (a1 : ByteArray) : Option (Bool) := if (a0.size : Int) ≥ (a1.size : Int) then (if 0 ≤ (wrap64 ((a0.size : Int) - (a1.size : Int))) then (if (wrap64 ((a0.size : Int) - (a1.size : Int))) ≤ (a0.size : Int) then (some ((a0.extract ((wrap64 ((a0.size : Int) - (a1.size : Int))) : Int).toNat a0.size).toList == a1.toList)) else (none)) else (none)) else (some false)
set_option maxHeartbeats 8000000 in
set_option maxRecDepth 100000 in
theorem spec_Ends.calls (a0 : ByteArray) (a1 : ByteArray) (r : Bool) (w : World) (h : spec_Ends.f a0 a1 = some r) :
    Calls Tryz.prog 41 #[.string a0, .string a1] w fun e w' => e = .returned (.bool r) ∧ Drawn0 w w' := by
  have H : (if (a0.size : Int) ≥ (a1.size : Int) then (if 0 ≤ (wrap64 ((a0.size : Int) - (a1.size : Int))) then (if (wrap64 ((a0.size : Int) - (a1.size : Int))) ≤ (a0.size : Int) then (some ((a0.extract ((wrap64 ((a0.size : Int) - (a1.size : Int))) : Int).toNat a0.size).toList == a1.toList)) else (none)) else (none)) else (some false)) = some r := h
  clear h
  by_cases c3 : (a0.size : Int) ≥ (a1.size : Int)
  · rw [if_pos c3] at H
    have c3b0 : decide ((a1.size : Int) ≤ (a0.size : Int)) = true := decide_eq_true c3
    have c3b1 : decide (a1.size ≤ a0.size) = true := decide_eq_true (Int.ofNat_le.mp c3)
    clear c3
    obtain ⟨ji4, hji4⟩ : ∃ j_ : Int, (wrap64 ((a0.size : Int) - (a1.size : Int))) = j_ := ⟨_, rfl⟩
    replace H : (if 0 ≤ (ji4) then (if (ji4) ≤ (a0.size : Int) then (some ((a0.extract ((ji4) : Int).toNat a0.size).toList == a1.toList)) else (none)) else (none)) = some r := by first | (rw [hji4] at H; exact H) | (simp only [hji4] at H ⊢; exact H)
    have hji4w : (IntKind.i64.wrap ((a0.size : Int) - (a1.size : Int))) = ji4 := (i64_w _).trans hji4
    by_cases c5 : 0 ≤ (ji4)
    · rw [if_pos c5] at H
      have c5b0 := eq_true c5
      have c5b1 : decide (0 ≤ (ji4)) = true := decide_eq_true c5
      clear c5
      by_cases c6 : (ji4) ≤ (a0.size : Int)
      · rw [if_pos c6] at H
        have c6b0 := eq_true c6
        have c6b1 : decide ((ji4) ≤ (a0.size : Int)) = true := decide_eq_true c6
        clear c6
        obtain rfl := Option.some.inj H
        go_enter Tryz.func41, Tryz.ntmps41
        go_wp2
        go_ret
        exact ⟨by first | rfl | (simp; done) | (simp only [← hji4] <;> (first | rfl | simp)) | (simp [*]; done), by repeat (first | exact Drawn0.refl _ | apply Drawn0.step)⟩
      · rw [if_neg c6] at H
        exact absurd H (by simp)
    · rw [if_neg c5] at H
      exact absurd H (by simp)
  · rw [if_neg c3] at H
    have c3b0 : decide ((a1.size : Int) ≤ (a0.size : Int)) = false := decide_eq_false c3
    have c3b1 : decide (a1.size ≤ a0.size) = false := decide_eq_false (fun h => c3 (Int.ofNat_le.mpr h))
    clear c3
    obtain rfl := Option.some.inj H
    go_enter Tryz.func41, Tryz.ntmps41
    go_wp2
    go_ret
    exact ⟨by first | rfl | (simp; done) | (simp [*]; done), by repeat (first | exact Drawn0.refl _ | apply Drawn0.step)⟩

end Go.Proofs.YtpemdpfageikfaaGreatDoor.Q
/-
  Contract of spec.target.isFor.
  Written by the kit's print.sh for this seat, sections of it laid into this text by a small program (wip/tools/mkq.py); namespace Q.
-/
namespace Go.Proofs.YtpemdpfageikfaaGreatDoor.Q
open Go.RowKit Go.Proofs.YtpemdpfageikfaaGreatDoorW.PrintWords Go.Proofs.YtpemdpfageikfaaGreatDoorW.PrintLast Go.Proofs.YtpemdpfageikfaaGreatDoorW.PrintMore
attribute [local go_sem] max2_int min2_int max_two min_two max_three min_three max_four min_four   -- for this text's walks alone
set_option linter.unusedVariables false
set_option linter.unusedSimpArgs false

/-! ### spec_target_isFor: function 30 -/
mutual
def spec_target_isFor.j0 : Nat → ByteArray → ByteArray → Bool → ByteArray → ByteArray → Int → Bool → Option (Bool)
  | 0, _, _, _, _, _, _, _ => none
  | k + 1, x8, x9, x43, x288000, x288001, x288002, x288003 => if x43 = true then (some false) else (if x9.toList = ([] : List UInt8) then (spec_target_isFor.j1 k x8 true x288000 x288001 x288002 x288003) else (spec_target_isFor.j1 k x8 (x9.toList == x288001.toList) x288000 x288001 x288002 x288003))
def spec_target_isFor.j1 : Nat → ByteArray → Bool → ByteArray → ByteArray → Int → Bool → Option (Bool)
  | 0, _, _, _, _, _, _ => none
  | k + 1, x8, x11, x288000, x288001, x288002, x288003 => (spec_Address.f k x8).bind fun bt296 => (if bt296.2 = true then (if x288003 = true then (if bt296.1 = x288002 then (some x11) else (some false)) else (some false)) else ((spec_Begins.f x8 (⟨#[42, 46]⟩ : ByteArray)).bind fun t298 => (if t298 = true then (if 1 ≤ (x8.size : Int) then (spec_target_isFor.j2 k (x8.extract 1 x8.size) x11 x288000 x288001 x288002 x288003) else (none)) else (spec_target_isFor.j2 k x8 x11 x288000 x288001 x288002 x288003))))
def spec_target_isFor.j2 : Nat → ByteArray → Bool → ByteArray → ByteArray → Int → Bool → Option (Bool)
  | 0, _, _, _, _, _, _ => none
  | k + 1, x8, x11, x288000, x288001, x288002, x288003 => if x288003 = true then (spec_target_isFor.j3 k x8 true x288000 x288001 x288002 x288003) else (spec_target_isFor.j3 k x8 (!x11) x288000 x288001 x288002 x288003)
def spec_target_isFor.j3 : Nat → ByteArray → Bool → ByteArray → ByteArray → Int → Bool → Option (Bool)
  | 0, _, _, _, _, _, _ => none
  | k + 1, x8, x78, x288000, x288001, x288002, x288003 => if x78 = true then (some false) else (if 0 < (x8.size : Int) then (if (bt x8 0) = 46 then ((spec_Ends.f x288000 x8).bind fun t299 => (some t299)) else (if x288000.toList = x8.toList then (some true) else (if 1 + x8.size ≤ 9223372036854775807 then ((spec_Ends.f x288000 ((⟨#[46]⟩ : ByteArray) ++ x8)).bind fun t300 => (some t300)) else (none)))) else (none))
end
def spec_target_isFor.f (k : Nat) (a0_0 : ByteArray) (a0_1 : ByteArray) (a0_2 : Int) (a0_3 : Bool) (a1 : ByteArray) : Option (Bool) := (spec_Network.f k a1).bind fun bt288 => (if bt288.2.2 = true then (if a0_3 = true then ((spec_begin.f bt288.1 bt288.2.1).bind fun t291 => ((spec_begin.f a0_2 bt288.2.1).bind fun t292 => (some (t291 == t292)))) else (some false)) else ((spec_Cut.f k a1 58).bind fun bt293 => (if bt293.2.2 = true then (spec_target_isFor.j0 k bt293.1 bt293.2.1 (bt293.1.toList == ([] : List UInt8)) a0_0 a0_1 a0_2 a0_3) else (spec_target_isFor.j0 k bt293.1 bt293.2.1 false a0_0 a0_1 a0_2 a0_3))))
theorem spec_target_isFor.mono_l : ∀ k, (∀ y0 y1 y2 y3 y4 y5 y6, LeO (spec_target_isFor.j0 k y0 y1 y2 y3 y4 y5 y6) (spec_target_isFor.j0 (k + 1) y0 y1 y2 y3 y4 y5 y6)) ∧ (∀ y0 y1 y2 y3 y4 y5, LeO (spec_target_isFor.j1 k y0 y1 y2 y3 y4 y5) (spec_target_isFor.j1 (k + 1) y0 y1 y2 y3 y4 y5)) ∧ (∀ y0 y1 y2 y3 y4 y5, LeO (spec_target_isFor.j2 k y0 y1 y2 y3 y4 y5) (spec_target_isFor.j2 (k + 1) y0 y1 y2 y3 y4 y5)) ∧ (∀ y0 y1 y2 y3 y4 y5, LeO (spec_target_isFor.j3 k y0 y1 y2 y3 y4 y5) (spec_target_isFor.j3 (k + 1) y0 y1 y2 y3 y4 y5))
  | 0 => ⟨fun _ _ _ _ _ _ _ r h => by simp [spec_target_isFor.j0] at h, fun _ _ _ _ _ _ r h => by simp [spec_target_isFor.j1] at h, fun _ _ _ _ _ _ r h => by simp [spec_target_isFor.j2] at h, fun _ _ _ _ _ _ r h => by simp [spec_target_isFor.j3] at h⟩
  | k + 1 => by
    obtain ⟨ih0, ih1, ih2, ih3⟩ := spec_target_isFor.mono_l k
    refine ⟨?_, ?_, ?_, ?_⟩
    · intro y0 y1 y2 y3 y4 y5 y6
      unfold spec_target_isFor.j0
      repeat' first
      | (with_reducible exact ih0 _ _ _ _ _ _ _)
      | (with_reducible exact ih1 _ _ _ _ _ _)
      | (with_reducible exact ih2 _ _ _ _ _ _)
      | (with_reducible exact ih3 _ _ _ _ _ _)
      | (with_reducible exact spec_Address.mono _ _)
      | (with_reducible exact spec_Cut.mono _ _ _)
      | (with_reducible exact spec_Network.mono _ _)
      | (with_reducible exact LeO.refl _)
      | (with_reducible exact LeO.none _)
      | (with_reducible refine LeO.ite ?_ ?_)
      | (with_reducible refine LeO.bind ?_ (fun _ => ?_))
      | exact ih0 _ _ _ _ _ _ _
      | exact ih1 _ _ _ _ _ _
      | exact ih2 _ _ _ _ _ _
      | exact ih3 _ _ _ _ _ _
      | exact spec_Address.mono _ _
      | exact spec_Cut.mono _ _ _
      | exact spec_Network.mono _ _
      | exact LeO.none _
      | refine LeO.ite ?_ ?_
      | refine LeO.bind ?_ (fun _ => ?_)
    · intro y0 y1 y2 y3 y4 y5
      unfold spec_target_isFor.j1
      repeat' first
      | (with_reducible exact ih0 _ _ _ _ _ _ _)
      | (with_reducible exact ih1 _ _ _ _ _ _)
      | (with_reducible exact ih2 _ _ _ _ _ _)
      | (with_reducible exact ih3 _ _ _ _ _ _)
      | (with_reducible exact spec_Address.mono _ _)
      | (with_reducible exact spec_Cut.mono _ _ _)
      | (with_reducible exact spec_Network.mono _ _)
      | (with_reducible exact LeO.refl _)
      | (with_reducible exact LeO.none _)
      | (with_reducible refine LeO.ite ?_ ?_)
      | (with_reducible refine LeO.bind ?_ (fun _ => ?_))
      | exact ih0 _ _ _ _ _ _ _
      | exact ih1 _ _ _ _ _ _
      | exact ih2 _ _ _ _ _ _
      | exact ih3 _ _ _ _ _ _
      | exact spec_Address.mono _ _
      | exact spec_Cut.mono _ _ _
      | exact spec_Network.mono _ _
      | exact LeO.none _
      | refine LeO.ite ?_ ?_
      | refine LeO.bind ?_ (fun _ => ?_)
    · intro y0 y1 y2 y3 y4 y5
      unfold spec_target_isFor.j2
      repeat' first
      | (with_reducible exact ih0 _ _ _ _ _ _ _)
      | (with_reducible exact ih1 _ _ _ _ _ _)
      | (with_reducible exact ih2 _ _ _ _ _ _)
      | (with_reducible exact ih3 _ _ _ _ _ _)
      | (with_reducible exact spec_Address.mono _ _)
      | (with_reducible exact spec_Cut.mono _ _ _)
      | (with_reducible exact spec_Network.mono _ _)
      | (with_reducible exact LeO.refl _)
      | (with_reducible exact LeO.none _)
      | (with_reducible refine LeO.ite ?_ ?_)
      | (with_reducible refine LeO.bind ?_ (fun _ => ?_))
      | exact ih0 _ _ _ _ _ _ _
      | exact ih1 _ _ _ _ _ _
      | exact ih2 _ _ _ _ _ _
      | exact ih3 _ _ _ _ _ _
      | exact spec_Address.mono _ _
      | exact spec_Cut.mono _ _ _
      | exact spec_Network.mono _ _
      | exact LeO.none _
      | refine LeO.ite ?_ ?_
      | refine LeO.bind ?_ (fun _ => ?_)
    · intro y0 y1 y2 y3 y4 y5
      unfold spec_target_isFor.j3
      repeat' first
      | (with_reducible exact ih0 _ _ _ _ _ _ _)
      | (with_reducible exact ih1 _ _ _ _ _ _)
      | (with_reducible exact ih2 _ _ _ _ _ _)
      | (with_reducible exact ih3 _ _ _ _ _ _)
      | (with_reducible exact spec_Address.mono _ _)
      | (with_reducible exact spec_Cut.mono _ _ _)
      | (with_reducible exact spec_Network.mono _ _)
      | (with_reducible exact LeO.refl _)
      | (with_reducible exact LeO.none _)
      | (with_reducible refine LeO.ite ?_ ?_)
      | (with_reducible refine LeO.bind ?_ (fun _ => ?_))
      | exact ih0 _ _ _ _ _ _ _
      | exact ih1 _ _ _ _ _ _
      | exact ih2 _ _ _ _ _ _
      | exact ih3 _ _ _ _ _ _
      | exact spec_Address.mono _ _
      | exact spec_Cut.mono _ _ _
      | exact spec_Network.mono _ _
      | exact LeO.none _
      | refine LeO.ite ?_ ?_
      | refine LeO.bind ?_ (fun _ => ?_)
theorem spec_target_isFor.mono : ∀ a0 a1 a2 a3 a4 k, LeO (spec_target_isFor.f k a0 a1 a2 a3 a4) (spec_target_isFor.f (k + 1) a0 a1 a2 a3 a4) := by
  intro a0 a1 a2 a3 a4 k
  obtain ⟨ih0, ih1, ih2, ih3⟩ := spec_target_isFor.mono_l k
  unfold spec_target_isFor.f
  repeat' first
      | (with_reducible exact ih0 _ _ _ _ _ _ _)
      | (with_reducible exact ih1 _ _ _ _ _ _)
      | (with_reducible exact ih2 _ _ _ _ _ _)
      | (with_reducible exact ih3 _ _ _ _ _ _)
      | (with_reducible exact spec_Address.mono _ _)
      | (with_reducible exact spec_Cut.mono _ _ _)
      | (with_reducible exact spec_Network.mono _ _)
      | (with_reducible exact LeO.refl _)
      | (with_reducible exact LeO.none _)
      | (with_reducible refine LeO.ite ?_ ?_)
      | (with_reducible refine LeO.bind ?_ (fun _ => ?_))
      | exact ih0 _ _ _ _ _ _ _
      | exact ih1 _ _ _ _ _ _
      | exact ih2 _ _ _ _ _ _
      | exact ih3 _ _ _ _ _ _
      | exact spec_Address.mono _ _
      | exact spec_Cut.mono _ _ _
      | exact spec_Network.mono _ _
      | exact LeO.none _
      | refine LeO.ite ?_ ?_
      | refine LeO.bind ?_ (fun _ => ?_)
set_option maxHeartbeats 8000000 in
set_option maxRecDepth 100000 in
theorem spec_target_isFor.calls (k : Nat) (a0_0 : ByteArray) (a0_1 : ByteArray) (a0_2 : Int) (a0_3 : Bool) (a1 : ByteArray) (r : Bool) (w : World) (h : spec_target_isFor.f k a0_0 a0_1 a0_2 a0_3 a1 = some r) :
    Calls Tryz.prog 30 #[.agg #[.string a0_0, .string a0_1, .int .u32 a0_2, .bool a0_3], .string a1] w fun e w' => e = .returned (.bool r) ∧ Below w.heap.size w w' := by
  have hu46 := Tryz.underlying46
  have HB := Aside0.mk (Below.refl w.heap.size w)
  have H : ((spec_Network.f k a1).bind fun bt288 => (if bt288.2.2 = true then (if a0_3 = true then ((spec_begin.f bt288.1 bt288.2.1).bind fun t291 => ((spec_begin.f a0_2 bt288.2.1).bind fun t292 => (some (t291 == t292)))) else (some false)) else ((spec_Cut.f k a1 58).bind fun bt293 => (if bt293.2.2 = true then (spec_target_isFor.j0 k bt293.1 bt293.2.1 (bt293.1.toList == ([] : List UInt8)) a0_0 a0_1 a0_2 a0_3) else (spec_target_isFor.j0 k bt293.1 bt293.2.1 false a0_0 a0_1 a0_2 a0_3))))) = some r := h
  clear h
  replace H := Option.bind_eq_some_iff.mp H
  obtain ⟨⟨t288, t289, t290⟩, A30, H⟩ := H
  replace H : (if t290 = true then (if a0_3 = true then ((spec_begin.f t288 t289).bind fun t291 => ((spec_begin.f a0_2 t289).bind fun t292 => (some (t291 == t292)))) else (some false)) else ((spec_Cut.f k a1 58).bind fun bt293 => (if bt293.2.2 = true then (spec_target_isFor.j0 k bt293.1 bt293.2.1 (bt293.1.toList == ([] : List UInt8)) a0_0 a0_1 a0_2 a0_3) else (spec_target_isFor.j0 k bt293.1 bt293.2.1 false a0_0 a0_1 a0_2 a0_3)))) = some r := H
  have A3 := Aside0.mk A30
  clear A30
  by_cases c4 : t290 = true
  · subst c4
    have H1 : (if a0_3 = true then ((spec_begin.f t288 t289).bind fun t291 => ((spec_begin.f a0_2 t289).bind fun t292 => (some (t291 == t292)))) else (some false)) = some r := by rw [if_pos rfl] at H; exact H
    clear H
    have H := H1
    clear H1
    by_cases c5 : a0_3 = true
    · subst c5
      have H1 : ((spec_begin.f t288 t289).bind fun t291 => ((spec_begin.f a0_2 t289).bind fun t292 => (some (t291 == t292)))) = some r := by rw [if_pos rfl] at H; exact H
      clear H
      have H := H1
      clear H1
      replace H := Option.bind_eq_some_iff.mp H
      obtain ⟨t291, A60, H⟩ := H
      replace H : ((spec_begin.f a0_2 t289).bind fun t292 => (some (t291 == t292))) = some r := H
      have A6 := Aside0.mk A60
      clear A60
      replace H := Option.bind_eq_some_iff.mp H
      obtain ⟨t292, A70, H⟩ := H
      replace H : (some (t291 == t292)) = some r := H
      have A7 := Aside0.mk A70
      clear A70
      obtain rfl := Option.some.inj H
      go_enter Tryz.func30, Tryz.ntmps30
      go_wp2_with (first | ((with_reducible refine gate_dst (N := 2) rfl ?_); refine box_event ?hg (N := 2) ?hd (cs := #[.string a0_0, .string a0_1, .int .u32 a0_2, .bool true]) (t := 46) ?hr ?_; (case hd => rfl); (case hg => rfl); (case hr => first | (go_simp; done) | (go_simp; rfl)); intro gb287 hg w8 hbox hb; have n0_ := Aside0.mk (below_step (by repeat (first | (with_reducible first | exact HB.out | apply below_alloc | apply pw_below_drewN | apply below_drew1) | exact HB.out)) hb); have n1_ := Aside0.mk (hbox); have n2_ := Aside0.mk ((by rw [hg]; exact (below_size (by repeat (first | (with_reducible first | exact HB.out | apply below_alloc | apply pw_below_drewN | apply below_drew1) | exact HB.out))) : w.heap.size ≤ gb287)); have n3_ := Aside0.mk ((by rw [hg]; exact (below_size (by repeat (first | (with_reducible first | exact HB.out | apply below_alloc | apply pw_below_drewN | apply below_drew1) | exact HB.out))) : w.heap.size ≤ gb287)); clear HB; have HB := n0_; have BK287 := n1_; have GW287 := n2_; have GE287 := n3_; clear n0_ n1_ n2_ n3_; clear hb hbox hg) | (go_at_call 38; (with_reducible refine (spec_Network.calls k a1 t288 t289 true _ A3.out).mono ?_); rintro e w9 ⟨rfl, hb⟩; have n0_ := Aside0.mk (blk_below (g := gb287) (o := .cells #[.string a0_0, .string a0_1, .int .u32 a0_2, .bool true] 46 (0, 0)) (by (with_reducible repeat (first | refine blk_drewN ?_ _ | refine blk_drew ?_ | refine blk_alloc ?_ _)); exact BK287.out) hb); have n1_ := Aside0.mk (below_step (by repeat (first | (with_reducible first | exact HB.out | apply below_alloc | apply pw_below_drewN | apply below_drew1 | refine below_set ?_ GE287.out) | exact HB.out)) hb); clear BK287; clear HB; have BK287 := n0_; have HB := n1_; clear n0_ n1_; (try clear hb); (try clear hb2); (try clear hk); (try clear hi); have hcz10_0 : w9.cell? ⟨gb287, 0, none⟩ = some (.string a0_0) := (blk_cell BK287.out 0).trans rfl; have hcz10_1 : w9.cell? ⟨gb287, 1, none⟩ = some (.string a0_1) := (blk_cell BK287.out 1).trans rfl; have hcz10_2 : w9.cell? ⟨gb287, 2, none⟩ = some (.int .u32 a0_2) := (blk_cell BK287.out 2).trans rfl; have hcz10_3 : w9.cell? ⟨gb287, 3, none⟩ = some (.bool true) := (blk_cell BK287.out 3).trans rfl; have hfz10_0 := blk_frozen BK287.out 0; have hfz10_1 := blk_frozen BK287.out 1; have hfz10_2 := blk_frozen BK287.out 2; have hfz10_3 := blk_frozen BK287.out 3) | (go_at_call 39; (with_reducible refine (spec_begin.calls t288 t289 t291 _ A6.out).mono ?_); rintro e w' ⟨rfl, ⟨nd, rfl⟩⟩; (try first | exact ⟨rfl, _, World.drewN_drewN _ _ _⟩ | exact ⟨rfl, _, Eq.trans (World.drewN_drewN _ _ _) (congrArg (World.drewN _) (Nat.add_assoc _ _ _))⟩)) | (go_at_call 39; (with_reducible refine (spec_begin.calls a0_2 t289 t292 _ A7.out).mono ?_); rintro e w' ⟨rfl, ⟨nd, rfl⟩⟩; (try first | exact ⟨rfl, _, World.drewN_drewN _ _ _⟩ | exact ⟨rfl, _, Eq.trans (World.drewN_drewN _ _ _) (congrArg (World.drewN _) (Nat.add_assoc _ _ _))⟩)))
      repeat (go_quiet (first | ((with_reducible refine gate_dst (N := 2) rfl ?_); refine box_event ?hg (N := 2) ?hd (cs := #[.string a0_0, .string a0_1, .int .u32 a0_2, .bool true]) (t := 46) ?hr ?_; (case hd => rfl); (case hg => rfl); (case hr => first | (go_simp; done) | (go_simp; rfl)); intro gb287 hg w8 hbox hb; have n0_ := Aside0.mk (below_step (by repeat (first | (with_reducible first | exact HB.out | apply below_alloc | apply pw_below_drewN | apply below_drew1) | exact HB.out)) hb); have n1_ := Aside0.mk (hbox); have n2_ := Aside0.mk ((by rw [hg]; exact (below_size (by repeat (first | (with_reducible first | exact HB.out | apply below_alloc | apply pw_below_drewN | apply below_drew1) | exact HB.out))) : w.heap.size ≤ gb287)); have n3_ := Aside0.mk ((by rw [hg]; exact (below_size (by repeat (first | (with_reducible first | exact HB.out | apply below_alloc | apply pw_below_drewN | apply below_drew1) | exact HB.out))) : w.heap.size ≤ gb287)); clear HB; have HB := n0_; have BK287 := n1_; have GW287 := n2_; have GE287 := n3_; clear n0_ n1_ n2_ n3_; clear hb hbox hg) | (go_at_call 38; (with_reducible refine (spec_Network.calls k a1 t288 t289 true _ A3.out).mono ?_); rintro e w9 ⟨rfl, hb⟩; have n0_ := Aside0.mk (blk_below (g := gb287) (o := .cells #[.string a0_0, .string a0_1, .int .u32 a0_2, .bool true] 46 (0, 0)) (by (with_reducible repeat (first | refine blk_drewN ?_ _ | refine blk_drew ?_ | refine blk_alloc ?_ _)); exact BK287.out) hb); have n1_ := Aside0.mk (below_step (by repeat (first | (with_reducible first | exact HB.out | apply below_alloc | apply pw_below_drewN | apply below_drew1 | refine below_set ?_ GE287.out) | exact HB.out)) hb); clear BK287; clear HB; have BK287 := n0_; have HB := n1_; clear n0_ n1_; (try clear hb); (try clear hb2); (try clear hk); (try clear hi); have hcz10_0 : w9.cell? ⟨gb287, 0, none⟩ = some (.string a0_0) := (blk_cell BK287.out 0).trans rfl; have hcz10_1 : w9.cell? ⟨gb287, 1, none⟩ = some (.string a0_1) := (blk_cell BK287.out 1).trans rfl; have hcz10_2 : w9.cell? ⟨gb287, 2, none⟩ = some (.int .u32 a0_2) := (blk_cell BK287.out 2).trans rfl; have hcz10_3 : w9.cell? ⟨gb287, 3, none⟩ = some (.bool true) := (blk_cell BK287.out 3).trans rfl; have hfz10_0 := blk_frozen BK287.out 0; have hfz10_1 := blk_frozen BK287.out 1; have hfz10_2 := blk_frozen BK287.out 2; have hfz10_3 := blk_frozen BK287.out 3) | (go_at_call 39; (with_reducible refine (spec_begin.calls t288 t289 t291 _ A6.out).mono ?_); rintro e w' ⟨rfl, ⟨nd, rfl⟩⟩; (try first | exact ⟨rfl, _, World.drewN_drewN _ _ _⟩ | exact ⟨rfl, _, Eq.trans (World.drewN_drewN _ _ _) (congrArg (World.drewN _) (Nat.add_assoc _ _ _))⟩)) | (go_at_call 39; (with_reducible refine (spec_begin.calls a0_2 t289 t292 _ A7.out).mono ?_); rintro e w' ⟨rfl, ⟨nd, rfl⟩⟩; (try first | exact ⟨rfl, _, World.drewN_drewN _ _ _⟩ | exact ⟨rfl, _, Eq.trans (World.drewN_drewN _ _ _) (congrArg (World.drewN _) (Nat.add_assoc _ _ _))⟩))); try go_wp2_with (first | ((with_reducible refine gate_dst (N := 2) rfl ?_); refine box_event ?hg (N := 2) ?hd (cs := #[.string a0_0, .string a0_1, .int .u32 a0_2, .bool true]) (t := 46) ?hr ?_; (case hd => rfl); (case hg => rfl); (case hr => first | (go_simp; done) | (go_simp; rfl)); intro gb287 hg w8 hbox hb; have n0_ := Aside0.mk (below_step (by repeat (first | (with_reducible first | exact HB.out | apply below_alloc | apply pw_below_drewN | apply below_drew1) | exact HB.out)) hb); have n1_ := Aside0.mk (hbox); have n2_ := Aside0.mk ((by rw [hg]; exact (below_size (by repeat (first | (with_reducible first | exact HB.out | apply below_alloc | apply pw_below_drewN | apply below_drew1) | exact HB.out))) : w.heap.size ≤ gb287)); have n3_ := Aside0.mk ((by rw [hg]; exact (below_size (by repeat (first | (with_reducible first | exact HB.out | apply below_alloc | apply pw_below_drewN | apply below_drew1) | exact HB.out))) : w.heap.size ≤ gb287)); clear HB; have HB := n0_; have BK287 := n1_; have GW287 := n2_; have GE287 := n3_; clear n0_ n1_ n2_ n3_; clear hb hbox hg) | (go_at_call 38; (with_reducible refine (spec_Network.calls k a1 t288 t289 true _ A3.out).mono ?_); rintro e w9 ⟨rfl, hb⟩; have n0_ := Aside0.mk (blk_below (g := gb287) (o := .cells #[.string a0_0, .string a0_1, .int .u32 a0_2, .bool true] 46 (0, 0)) (by (with_reducible repeat (first | refine blk_drewN ?_ _ | refine blk_drew ?_ | refine blk_alloc ?_ _)); exact BK287.out) hb); have n1_ := Aside0.mk (below_step (by repeat (first | (with_reducible first | exact HB.out | apply below_alloc | apply pw_below_drewN | apply below_drew1 | refine below_set ?_ GE287.out) | exact HB.out)) hb); clear BK287; clear HB; have BK287 := n0_; have HB := n1_; clear n0_ n1_; (try clear hb); (try clear hb2); (try clear hk); (try clear hi); have hcz10_0 : w9.cell? ⟨gb287, 0, none⟩ = some (.string a0_0) := (blk_cell BK287.out 0).trans rfl; have hcz10_1 : w9.cell? ⟨gb287, 1, none⟩ = some (.string a0_1) := (blk_cell BK287.out 1).trans rfl; have hcz10_2 : w9.cell? ⟨gb287, 2, none⟩ = some (.int .u32 a0_2) := (blk_cell BK287.out 2).trans rfl; have hcz10_3 : w9.cell? ⟨gb287, 3, none⟩ = some (.bool true) := (blk_cell BK287.out 3).trans rfl; have hfz10_0 := blk_frozen BK287.out 0; have hfz10_1 := blk_frozen BK287.out 1; have hfz10_2 := blk_frozen BK287.out 2; have hfz10_3 := blk_frozen BK287.out 3) | (go_at_call 39; (with_reducible refine (spec_begin.calls t288 t289 t291 _ A6.out).mono ?_); rintro e w' ⟨rfl, ⟨nd, rfl⟩⟩; (try first | exact ⟨rfl, _, World.drewN_drewN _ _ _⟩ | exact ⟨rfl, _, Eq.trans (World.drewN_drewN _ _ _) (congrArg (World.drewN _) (Nat.add_assoc _ _ _))⟩)) | (go_at_call 39; (with_reducible refine (spec_begin.calls a0_2 t289 t292 _ A7.out).mono ?_); rintro e w' ⟨rfl, ⟨nd, rfl⟩⟩; (try first | exact ⟨rfl, _, World.drewN_drewN _ _ _⟩ | exact ⟨rfl, _, Eq.trans (World.drewN_drewN _ _ _) (congrArg (World.drewN _) (Nat.add_assoc _ _ _))⟩))))
      go_ret
      exact ⟨by first | rfl | (simp [errW_none, errW_some] <;> rfl) | (simp [*, errW_none, errW_some] <;> rfl), by repeat (first | (with_reducible first | exact HB.out | apply below_alloc | apply pw_below_drewN | apply below_drew1 | refine below_set ?_ GE287.out) | exact HB.out)⟩
    · replace c5 := Bool.eq_false_iff.mpr c5
      subst c5
      have H1 : (some false) = some r := by rw [if_neg (show ¬ (false = true) by decide)] at H; exact H
      clear H
      have H := H1
      clear H1
      obtain rfl := Option.some.inj H
      go_enter Tryz.func30, Tryz.ntmps30
      go_wp2_with (first | ((with_reducible refine gate_dst (N := 2) rfl ?_); refine box_event ?hg (N := 2) ?hd (cs := #[.string a0_0, .string a0_1, .int .u32 a0_2, .bool false]) (t := 46) ?hr ?_; (case hd => rfl); (case hg => rfl); (case hr => first | (go_simp; done) | (go_simp; rfl)); intro gb287 hg w11 hbox hb; have n0_ := Aside0.mk (below_step (by repeat (first | (with_reducible first | exact HB.out | apply below_alloc | apply pw_below_drewN | apply below_drew1) | exact HB.out)) hb); have n1_ := Aside0.mk (hbox); have n2_ := Aside0.mk ((by rw [hg]; exact (below_size (by repeat (first | (with_reducible first | exact HB.out | apply below_alloc | apply pw_below_drewN | apply below_drew1) | exact HB.out))) : w.heap.size ≤ gb287)); have n3_ := Aside0.mk ((by rw [hg]; exact (below_size (by repeat (first | (with_reducible first | exact HB.out | apply below_alloc | apply pw_below_drewN | apply below_drew1) | exact HB.out))) : w.heap.size ≤ gb287)); clear HB; have HB := n0_; have BK287 := n1_; have GW287 := n2_; have GE287 := n3_; clear n0_ n1_ n2_ n3_; clear hb hbox hg) | (go_at_call 38; (with_reducible refine (spec_Network.calls k a1 t288 t289 true _ A3.out).mono ?_); rintro e w12 ⟨rfl, hb⟩; have n0_ := Aside0.mk (blk_below (g := gb287) (o := .cells #[.string a0_0, .string a0_1, .int .u32 a0_2, .bool false] 46 (0, 0)) (by (with_reducible repeat (first | refine blk_drewN ?_ _ | refine blk_drew ?_ | refine blk_alloc ?_ _)); exact BK287.out) hb); have n1_ := Aside0.mk (below_step (by repeat (first | (with_reducible first | exact HB.out | apply below_alloc | apply pw_below_drewN | apply below_drew1 | refine below_set ?_ GE287.out) | exact HB.out)) hb); clear BK287; clear HB; have BK287 := n0_; have HB := n1_; clear n0_ n1_; (try clear hb); (try clear hb2); (try clear hk); (try clear hi); have hcz13_0 : w12.cell? ⟨gb287, 0, none⟩ = some (.string a0_0) := (blk_cell BK287.out 0).trans rfl; have hcz13_1 : w12.cell? ⟨gb287, 1, none⟩ = some (.string a0_1) := (blk_cell BK287.out 1).trans rfl; have hcz13_2 : w12.cell? ⟨gb287, 2, none⟩ = some (.int .u32 a0_2) := (blk_cell BK287.out 2).trans rfl; have hcz13_3 : w12.cell? ⟨gb287, 3, none⟩ = some (.bool false) := (blk_cell BK287.out 3).trans rfl; have hfz13_0 := blk_frozen BK287.out 0; have hfz13_1 := blk_frozen BK287.out 1; have hfz13_2 := blk_frozen BK287.out 2; have hfz13_3 := blk_frozen BK287.out 3))
      repeat (go_quiet (first | ((with_reducible refine gate_dst (N := 2) rfl ?_); refine box_event ?hg (N := 2) ?hd (cs := #[.string a0_0, .string a0_1, .int .u32 a0_2, .bool false]) (t := 46) ?hr ?_; (case hd => rfl); (case hg => rfl); (case hr => first | (go_simp; done) | (go_simp; rfl)); intro gb287 hg w11 hbox hb; have n0_ := Aside0.mk (below_step (by repeat (first | (with_reducible first | exact HB.out | apply below_alloc | apply pw_below_drewN | apply below_drew1) | exact HB.out)) hb); have n1_ := Aside0.mk (hbox); have n2_ := Aside0.mk ((by rw [hg]; exact (below_size (by repeat (first | (with_reducible first | exact HB.out | apply below_alloc | apply pw_below_drewN | apply below_drew1) | exact HB.out))) : w.heap.size ≤ gb287)); have n3_ := Aside0.mk ((by rw [hg]; exact (below_size (by repeat (first | (with_reducible first | exact HB.out | apply below_alloc | apply pw_below_drewN | apply below_drew1) | exact HB.out))) : w.heap.size ≤ gb287)); clear HB; have HB := n0_; have BK287 := n1_; have GW287 := n2_; have GE287 := n3_; clear n0_ n1_ n2_ n3_; clear hb hbox hg) | (go_at_call 38; (with_reducible refine (spec_Network.calls k a1 t288 t289 true _ A3.out).mono ?_); rintro e w12 ⟨rfl, hb⟩; have n0_ := Aside0.mk (blk_below (g := gb287) (o := .cells #[.string a0_0, .string a0_1, .int .u32 a0_2, .bool false] 46 (0, 0)) (by (with_reducible repeat (first | refine blk_drewN ?_ _ | refine blk_drew ?_ | refine blk_alloc ?_ _)); exact BK287.out) hb); have n1_ := Aside0.mk (below_step (by repeat (first | (with_reducible first | exact HB.out | apply below_alloc | apply pw_below_drewN | apply below_drew1 | refine below_set ?_ GE287.out) | exact HB.out)) hb); clear BK287; clear HB; have BK287 := n0_; have HB := n1_; clear n0_ n1_; (try clear hb); (try clear hb2); (try clear hk); (try clear hi); have hcz13_0 : w12.cell? ⟨gb287, 0, none⟩ = some (.string a0_0) := (blk_cell BK287.out 0).trans rfl; have hcz13_1 : w12.cell? ⟨gb287, 1, none⟩ = some (.string a0_1) := (blk_cell BK287.out 1).trans rfl; have hcz13_2 : w12.cell? ⟨gb287, 2, none⟩ = some (.int .u32 a0_2) := (blk_cell BK287.out 2).trans rfl; have hcz13_3 : w12.cell? ⟨gb287, 3, none⟩ = some (.bool false) := (blk_cell BK287.out 3).trans rfl; have hfz13_0 := blk_frozen BK287.out 0; have hfz13_1 := blk_frozen BK287.out 1; have hfz13_2 := blk_frozen BK287.out 2; have hfz13_3 := blk_frozen BK287.out 3)); try go_wp2_with (first | ((with_reducible refine gate_dst (N := 2) rfl ?_); refine box_event ?hg (N := 2) ?hd (cs := #[.string a0_0, .string a0_1, .int .u32 a0_2, .bool false]) (t := 46) ?hr ?_; (case hd => rfl); (case hg => rfl); (case hr => first | (go_simp; done) | (go_simp; rfl)); intro gb287 hg w11 hbox hb; have n0_ := Aside0.mk (below_step (by repeat (first | (with_reducible first | exact HB.out | apply below_alloc | apply pw_below_drewN | apply below_drew1) | exact HB.out)) hb); have n1_ := Aside0.mk (hbox); have n2_ := Aside0.mk ((by rw [hg]; exact (below_size (by repeat (first | (with_reducible first | exact HB.out | apply below_alloc | apply pw_below_drewN | apply below_drew1) | exact HB.out))) : w.heap.size ≤ gb287)); have n3_ := Aside0.mk ((by rw [hg]; exact (below_size (by repeat (first | (with_reducible first | exact HB.out | apply below_alloc | apply pw_below_drewN | apply below_drew1) | exact HB.out))) : w.heap.size ≤ gb287)); clear HB; have HB := n0_; have BK287 := n1_; have GW287 := n2_; have GE287 := n3_; clear n0_ n1_ n2_ n3_; clear hb hbox hg) | (go_at_call 38; (with_reducible refine (spec_Network.calls k a1 t288 t289 true _ A3.out).mono ?_); rintro e w12 ⟨rfl, hb⟩; have n0_ := Aside0.mk (blk_below (g := gb287) (o := .cells #[.string a0_0, .string a0_1, .int .u32 a0_2, .bool false] 46 (0, 0)) (by (with_reducible repeat (first | refine blk_drewN ?_ _ | refine blk_drew ?_ | refine blk_alloc ?_ _)); exact BK287.out) hb); have n1_ := Aside0.mk (below_step (by repeat (first | (with_reducible first | exact HB.out | apply below_alloc | apply pw_below_drewN | apply below_drew1 | refine below_set ?_ GE287.out) | exact HB.out)) hb); clear BK287; clear HB; have BK287 := n0_; have HB := n1_; clear n0_ n1_; (try clear hb); (try clear hb2); (try clear hk); (try clear hi); have hcz13_0 : w12.cell? ⟨gb287, 0, none⟩ = some (.string a0_0) := (blk_cell BK287.out 0).trans rfl; have hcz13_1 : w12.cell? ⟨gb287, 1, none⟩ = some (.string a0_1) := (blk_cell BK287.out 1).trans rfl; have hcz13_2 : w12.cell? ⟨gb287, 2, none⟩ = some (.int .u32 a0_2) := (blk_cell BK287.out 2).trans rfl; have hcz13_3 : w12.cell? ⟨gb287, 3, none⟩ = some (.bool false) := (blk_cell BK287.out 3).trans rfl; have hfz13_0 := blk_frozen BK287.out 0; have hfz13_1 := blk_frozen BK287.out 1; have hfz13_2 := blk_frozen BK287.out 2; have hfz13_3 := blk_frozen BK287.out 3)))
      go_ret
      exact ⟨by first | rfl | (simp [errW_none, errW_some] <;> rfl) | (simp [*, errW_none, errW_some] <;> rfl), by repeat (first | (with_reducible first | exact HB.out | apply below_alloc | apply pw_below_drewN | apply below_drew1 | refine below_set ?_ GE287.out) | exact HB.out)⟩
  · replace c4 := Bool.eq_false_iff.mpr c4
    subst c4
    have H1 : ((spec_Cut.f k a1 58).bind fun bt293 => (if bt293.2.2 = true then (spec_target_isFor.j0 k bt293.1 bt293.2.1 (bt293.1.toList == ([] : List UInt8)) a0_0 a0_1 a0_2 a0_3) else (spec_target_isFor.j0 k bt293.1 bt293.2.1 false a0_0 a0_1 a0_2 a0_3))) = some r := by rw [if_neg (show ¬ (false = true) by decide)] at H; exact H
    clear H
    have H := H1
    clear H1
    replace H := Option.bind_eq_some_iff.mp H
    obtain ⟨⟨t293, t294, t295⟩, A140, H⟩ := H
    replace H : (if t295 = true then (spec_target_isFor.j0 k t293 t294 (t293.toList == ([] : List UInt8)) a0_0 a0_1 a0_2 a0_3) else (spec_target_isFor.j0 k t293 t294 false a0_0 a0_1 a0_2 a0_3)) = some r := H
    have A14 := Aside0.mk A140
    clear A140
    have HC15 := Aside0.mk H
    clear H
    go_enter Tryz.func30, Tryz.ntmps30
    go_upto_region 5 with (first | ((with_reducible refine gate_dst (N := 2) rfl ?_); refine box_event ?hg (N := 2) ?hd (cs := #[.string a0_0, .string a0_1, .int .u32 a0_2, .bool a0_3]) (t := 46) ?hr ?_; (case hd => rfl); (case hg => rfl); (case hr => first | (go_simp; done) | (go_simp; rfl)); intro gb287 hg w16 hbox hb; have n0_ := Aside0.mk (below_step (by repeat (first | (with_reducible first | exact HB.out | apply below_alloc | apply pw_below_drewN | apply below_drew1) | exact HB.out)) hb); have n1_ := Aside0.mk (hbox); have n2_ := Aside0.mk ((by rw [hg]; exact (below_size (by repeat (first | (with_reducible first | exact HB.out | apply below_alloc | apply pw_below_drewN | apply below_drew1) | exact HB.out))) : w.heap.size ≤ gb287)); have n3_ := Aside0.mk ((by rw [hg]; exact (below_size (by repeat (first | (with_reducible first | exact HB.out | apply below_alloc | apply pw_below_drewN | apply below_drew1) | exact HB.out))) : w.heap.size ≤ gb287)); clear HB; have HB := n0_; have BK287 := n1_; have GW287 := n2_; have GE287 := n3_; clear n0_ n1_ n2_ n3_; clear hb hbox hg) | (go_at_call 38; (with_reducible refine (spec_Network.calls k a1 t288 t289 false _ A3.out).mono ?_); rintro e w17 ⟨rfl, hb⟩; have n0_ := Aside0.mk (blk_below (g := gb287) (o := .cells #[.string a0_0, .string a0_1, .int .u32 a0_2, .bool a0_3] 46 (0, 0)) (by (with_reducible repeat (first | refine blk_drewN ?_ _ | refine blk_drew ?_ | refine blk_alloc ?_ _)); exact BK287.out) hb); have n1_ := Aside0.mk (below_step (by repeat (first | (with_reducible first | exact HB.out | apply below_alloc | apply pw_below_drewN | apply below_drew1 | refine below_set ?_ GE287.out) | exact HB.out)) hb); clear BK287; clear HB; have BK287 := n0_; have HB := n1_; clear n0_ n1_; (try clear hb); (try clear hb2); (try clear hk); (try clear hi)) | (go_at_call 26; (with_reducible refine (spec_Cut.calls k a1 58 t293 t294 t295 _ A14.out).mono ?_); rintro e w' ⟨rfl, ⟨nd, rfl⟩⟩; (try first | exact ⟨rfl, _, World.drewN_drewN _ _ _⟩ | exact ⟨rfl, _, Eq.trans (World.drewN_drewN _ _ _) (congrArg (World.drewN _) (Nat.add_assoc _ _ _))⟩)))
    repeat (go_quiet (first | ((with_reducible refine gate_dst (N := 2) rfl ?_); refine box_event ?hg (N := 2) ?hd (cs := #[.string a0_0, .string a0_1, .int .u32 a0_2, .bool a0_3]) (t := 46) ?hr ?_; (case hd => rfl); (case hg => rfl); (case hr => first | (go_simp; done) | (go_simp; rfl)); intro gb287 hg w16 hbox hb; have n0_ := Aside0.mk (below_step (by repeat (first | (with_reducible first | exact HB.out | apply below_alloc | apply pw_below_drewN | apply below_drew1) | exact HB.out)) hb); have n1_ := Aside0.mk (hbox); have n2_ := Aside0.mk ((by rw [hg]; exact (below_size (by repeat (first | (with_reducible first | exact HB.out | apply below_alloc | apply pw_below_drewN | apply below_drew1) | exact HB.out))) : w.heap.size ≤ gb287)); have n3_ := Aside0.mk ((by rw [hg]; exact (below_size (by repeat (first | (with_reducible first | exact HB.out | apply below_alloc | apply pw_below_drewN | apply below_drew1) | exact HB.out))) : w.heap.size ≤ gb287)); clear HB; have HB := n0_; have BK287 := n1_; have GW287 := n2_; have GE287 := n3_; clear n0_ n1_ n2_ n3_; clear hb hbox hg) | (go_at_call 38; (with_reducible refine (spec_Network.calls k a1 t288 t289 false _ A3.out).mono ?_); rintro e w17 ⟨rfl, hb⟩; have n0_ := Aside0.mk (blk_below (g := gb287) (o := .cells #[.string a0_0, .string a0_1, .int .u32 a0_2, .bool a0_3] 46 (0, 0)) (by (with_reducible repeat (first | refine blk_drewN ?_ _ | refine blk_drew ?_ | refine blk_alloc ?_ _)); exact BK287.out) hb); have n1_ := Aside0.mk (below_step (by repeat (first | (with_reducible first | exact HB.out | apply below_alloc | apply pw_below_drewN | apply below_drew1 | refine below_set ?_ GE287.out) | exact HB.out)) hb); clear BK287; clear HB; have BK287 := n0_; have HB := n1_; clear n0_ n1_; (try clear hb); (try clear hb2); (try clear hk); (try clear hi)) | (go_at_call 26; (with_reducible refine (spec_Cut.calls k a1 58 t293 t294 t295 _ A14.out).mono ?_); rintro e w' ⟨rfl, ⟨nd, rfl⟩⟩; (try first | exact ⟨rfl, _, World.drewN_drewN _ _ _⟩ | exact ⟨rfl, _, Eq.trans (World.drewN_drewN _ _ _) (congrArg (World.drewN _) (Nat.add_assoc _ _ _))⟩))); go_upto_region 5 with (first | ((with_reducible refine gate_dst (N := 2) rfl ?_); refine box_event ?hg (N := 2) ?hd (cs := #[.string a0_0, .string a0_1, .int .u32 a0_2, .bool a0_3]) (t := 46) ?hr ?_; (case hd => rfl); (case hg => rfl); (case hr => first | (go_simp; done) | (go_simp; rfl)); intro gb287 hg w16 hbox hb; have n0_ := Aside0.mk (below_step (by repeat (first | (with_reducible first | exact HB.out | apply below_alloc | apply pw_below_drewN | apply below_drew1) | exact HB.out)) hb); have n1_ := Aside0.mk (hbox); have n2_ := Aside0.mk ((by rw [hg]; exact (below_size (by repeat (first | (with_reducible first | exact HB.out | apply below_alloc | apply pw_below_drewN | apply below_drew1) | exact HB.out))) : w.heap.size ≤ gb287)); have n3_ := Aside0.mk ((by rw [hg]; exact (below_size (by repeat (first | (with_reducible first | exact HB.out | apply below_alloc | apply pw_below_drewN | apply below_drew1) | exact HB.out))) : w.heap.size ≤ gb287)); clear HB; have HB := n0_; have BK287 := n1_; have GW287 := n2_; have GE287 := n3_; clear n0_ n1_ n2_ n3_; clear hb hbox hg) | (go_at_call 38; (with_reducible refine (spec_Network.calls k a1 t288 t289 false _ A3.out).mono ?_); rintro e w17 ⟨rfl, hb⟩; have n0_ := Aside0.mk (blk_below (g := gb287) (o := .cells #[.string a0_0, .string a0_1, .int .u32 a0_2, .bool a0_3] 46 (0, 0)) (by (with_reducible repeat (first | refine blk_drewN ?_ _ | refine blk_drew ?_ | refine blk_alloc ?_ _)); exact BK287.out) hb); have n1_ := Aside0.mk (below_step (by repeat (first | (with_reducible first | exact HB.out | apply below_alloc | apply pw_below_drewN | apply below_drew1 | refine below_set ?_ GE287.out) | exact HB.out)) hb); clear BK287; clear HB; have BK287 := n0_; have HB := n1_; clear n0_ n1_; (try clear hb); (try clear hb2); (try clear hk); (try clear hi)) | (go_at_call 26; (with_reducible refine (spec_Cut.calls k a1 58 t293 t294 t295 _ A14.out).mono ?_); rintro e w' ⟨rfl, ⟨nd, rfl⟩⟩; (try first | exact ⟨rfl, _, World.drewN_drewN _ _ _⟩ | exact ⟨rfl, _, Eq.trans (World.drewN_drewN _ _ _) (congrArg (World.drewN _) (Nat.add_assoc _ _ _))⟩))))
    (try simp only [Act.put, List.setIfInBounds_toArray, List.set_cons_zero, List.set_cons_succ])
    go_cut [43] (fun v43 wc => ∃ (kq : Nat) (x43_14 : Bool), v43 = .bool x43_14 ∧ Aside0 (spec_target_isFor.j0 kq t293 t294 x43_14 a0_0 a0_1 a0_2 a0_3 = some r) ∧ Aside0 (kq ≤ k) ∧ Aside0 (wc.heap[gb287]? = some (.cells #[.string a0_0, .string a0_1, .int .u32 a0_2, .bool a0_3] 46 (0, 0))) ∧ Aside0 (Below w.heap.size w wc))
    case first =>
      have H := HC15.out
      clear HC15
      by_cases c18 : t295 = true
      · subst c18
        have H1 : (spec_target_isFor.j0 k t293 t294 (t293.toList == ([] : List UInt8)) a0_0 a0_1 a0_2 a0_3) = some r := by rw [if_pos rfl] at H; exact H
        clear H
        have H := H1
        clear H1
        have H' := Aside0.mk H
        clear H
        go_wp2
        repeat (go_quiet (fail); try go_wp2)
        go_meet
        case rel => exact ⟨_, ((t293.toList == ([] : List UInt8))), (by first | rfl | (simp; done) | (simp [*]; done)), H', ⟨by first | omega | exact Nat.le_refl _⟩, ⟨by (with_reducible repeat (first | refine blk_drewN ?_ _ | refine blk_drew ?_ | refine blk_alloc ?_ _)); exact BK287.out⟩, ⟨by repeat (first | (with_reducible first | exact HB.out | apply below_alloc | apply pw_below_drewN | apply below_drew1 | refine below_set ?_ GE287.out) | exact HB.out)⟩⟩
      · replace c18 := Bool.eq_false_iff.mpr c18
        subst c18
        have H1 : (spec_target_isFor.j0 k t293 t294 false a0_0 a0_1 a0_2 a0_3) = some r := by rw [if_neg (show ¬ (false = true) by decide)] at H; exact H
        clear H
        have H := H1
        clear H1
        have H' := Aside0.mk H
        clear H
        go_wp2
        repeat (go_quiet (fail); try go_wp2)
        go_meet
        case rel => exact ⟨_, (false), (by first | rfl | (simp; done) | (simp [*]; done)), H', ⟨by first | omega | exact Nat.le_refl _⟩, ⟨by (with_reducible repeat (first | refine blk_drewN ?_ _ | refine blk_drew ?_ | refine blk_alloc ?_ _)); exact BK287.out⟩, ⟨by repeat (first | (with_reducible first | exact HB.out | apply below_alloc | apply pw_below_drewN | apply below_drew1 | refine below_set ?_ GE287.out) | exact HB.out)⟩⟩
    case rest =>
      clear HC15
      try clear c1
      try clear p2
      try clear c3
      try clear c4
      try clear c5
      try clear c18
      try clear hcz10_0
      try clear hcz10_1
      try clear hcz10_2
      try clear hcz10_3
      try clear hcz13_0
      try clear hcz13_1
      try clear hcz13_2
      try clear hcz13_3
      try clear hfz10_0
      try clear hfz10_1
      try clear hfz10_2
      try clear hfz10_3
      try clear hfz13_0
      try clear hfz13_1
      try clear hfz13_2
      try clear hfz13_3
      obtain ⟨kq, x43_14, rfl, HA, HJ14, BK287, HB⟩ := hcut
      cases kq with
      | zero => exact absurd HA.out (by simp [spec_target_isFor.j0])
      | succ kj14 =>
        have H := HA.out
        clear HA
        simp only [spec_target_isFor.j0] at H
        by_cases c19 : x43_14 = true
        · subst c19
          have H1 : (some false) = some r := by rw [if_pos rfl] at H; exact H
          clear H
          have H := H1
          clear H1
          obtain rfl := Option.some.inj H
          go_wp2
          repeat (go_quiet (fail); try go_wp2)
          go_ret
          exact ⟨by first | rfl | (simp [errW_none, errW_some] <;> rfl) | (simp [*, errW_none, errW_some] <;> rfl), by repeat (first | (with_reducible first | exact HB.out | apply below_alloc | apply pw_below_drewN | apply below_drew1 | refine below_set ?_ GE287.out) | exact HB.out)⟩
        · replace c19 := Bool.eq_false_iff.mpr c19
          subst c19
          have H1 : (if t294.toList = ([] : List UInt8) then (spec_target_isFor.j1 kj14 t293 true a0_0 a0_1 a0_2 a0_3) else (spec_target_isFor.j1 kj14 t293 (t294.toList == a0_1.toList) a0_0 a0_1 a0_2 a0_3)) = some r := by rw [if_neg (show ¬ (false = true) by decide)] at H; exact H
          clear H
          have H := H1
          clear H1
          have HC20 := Aside0.mk H
          clear H
          go_upto_region 7 with (fail)
          repeat (go_quiet (fail); go_upto_region 7 with (fail))
          go_cut [11] (fun v11 wc => ∃ (kq : Nat) (x11_19 : Bool), v11 = .bool x11_19 ∧ Aside0 (spec_target_isFor.j1 kq t293 x11_19 a0_0 a0_1 a0_2 a0_3 = some r) ∧ Aside0 (kq ≤ kj14) ∧ Aside0 (wc.heap[gb287]? = some (.cells #[.string a0_0, .string a0_1, .int .u32 a0_2, .bool a0_3] 46 (0, 0))) ∧ Aside0 (Below w.heap.size w wc))
          case first =>
            have H := HC20.out
            clear HC20
            by_cases c21 : t294.toList = ([] : List UInt8)
            · rw [if_pos c21] at H
              have c21b0 : (t294.toList == ([] : List UInt8)) = true := beq_iff_eq.mpr c21
              have c21b1 : (t294.toList != ([] : List UInt8)) = false := bne_eq_false_iff_eq.mpr c21
              clear c21
              (first | rw [c21b0] | (simp only [i64_w, i32_w]; rw [c21b0]) | skip)
              have H' := Aside0.mk H
              clear H
              go_wp2
              repeat (go_quiet (fail); try go_wp2)
              go_meet
              case rel => exact ⟨_, (true), (by first | rfl | (simp; done) | (simp [*]; done)), H', ⟨by have := HJ14.out; first | omega | exact Nat.le_refl _⟩, ⟨by (with_reducible repeat (first | refine blk_drewN ?_ _ | refine blk_drew ?_ | refine blk_alloc ?_ _)); exact BK287.out⟩, ⟨by repeat (first | (with_reducible first | exact HB.out | apply below_alloc | apply pw_below_drewN | apply below_drew1 | refine below_set ?_ GE287.out) | exact HB.out)⟩⟩
            · rw [if_neg c21] at H
              have c21b0 : (t294.toList == ([] : List UInt8)) = false := beq_eq_false_iff_ne.mpr c21
              have c21b1 : (t294.toList != ([] : List UInt8)) = true := bne_iff_ne.mpr c21
              (first | rw [c21b0] | (simp only [i64_w, i32_w]; rw [c21b0]) | skip)
              have H' := Aside0.mk H
              clear H
              have hcz22_0 : wc.cell? ⟨gb287, 0, none⟩ = some (.string a0_0) := (blk_cell BK287.out 0).trans rfl
              have hcz22_1 : wc.cell? ⟨gb287, 1, none⟩ = some (.string a0_1) := (blk_cell BK287.out 1).trans rfl
              have hcz22_2 : wc.cell? ⟨gb287, 2, none⟩ = some (.int .u32 a0_2) := (blk_cell BK287.out 2).trans rfl
              have hcz22_3 : wc.cell? ⟨gb287, 3, none⟩ = some (.bool a0_3) := (blk_cell BK287.out 3).trans rfl
              have hfz22_0 := blk_frozen BK287.out 0
              have hfz22_1 := blk_frozen BK287.out 1
              have hfz22_2 := blk_frozen BK287.out 2
              have hfz22_3 := blk_frozen BK287.out 3
              go_wp2
              repeat (go_quiet (fail); try go_wp2)
              go_meet
              case rel => exact ⟨_, ((t294.toList == a0_1.toList)), (by first | rfl | (simp; done) | (simp [*]; done)), H', ⟨by have := HJ14.out; first | omega | exact Nat.le_refl _⟩, ⟨by (with_reducible repeat (first | refine blk_drewN ?_ _ | refine blk_drew ?_ | refine blk_alloc ?_ _)); exact BK287.out⟩, ⟨by repeat (first | (with_reducible first | exact HB.out | apply below_alloc | apply pw_below_drewN | apply below_drew1 | refine below_set ?_ GE287.out) | exact HB.out)⟩⟩
          case rest =>
            clear HC20
            try clear c1
            try clear c2
            try clear p2
            try clear c3
            try clear c4
            try clear c5
            try clear c18
            try clear c19
            try clear c21
            try clear c21b0
            try clear c21b1
            try clear hcz10_0
            try clear hcz10_1
            try clear hcz10_2
            try clear hcz10_3
            try clear hcz13_0
            try clear hcz13_1
            try clear hcz13_2
            try clear hcz13_3
            try clear hcz22_0
            try clear hcz22_1
            try clear hcz22_2
            try clear hcz22_3
            try clear hfz10_0
            try clear hfz10_1
            try clear hfz10_2
            try clear hfz10_3
            try clear hfz13_0
            try clear hfz13_1
            try clear hfz13_2
            try clear hfz13_3
            try clear hfz22_0
            try clear hfz22_1
            try clear hfz22_2
            try clear hfz22_3
            try clear p2
            obtain ⟨kq, x11_19, rfl, HA, HJ19, BK287, HB⟩ := hcut
            cases kq with
            | zero => exact absurd HA.out (by simp [spec_target_isFor.j1])
            | succ kj19 =>
              have H := HA.out
              clear HA
              simp only [spec_target_isFor.j1] at H
              replace H := Option.bind_eq_some_iff.mp H
              obtain ⟨⟨t296, t297⟩, A230, H⟩ := H
              replace H : (if t297 = true then (if a0_3 = true then (if t296 = a0_2 then (some x11_19) else (some false)) else (some false)) else ((spec_Begins.f t293 (⟨#[42, 46]⟩ : ByteArray)).bind fun t298 => (if t298 = true then (if 1 ≤ (t293.size : Int) then (spec_target_isFor.j2 kj19 (t293.extract 1 t293.size) x11_19 a0_0 a0_1 a0_2 a0_3) else (none)) else (spec_target_isFor.j2 kj19 t293 x11_19 a0_0 a0_1 a0_2 a0_3)))) = some r := H
              have A23 := Aside0.mk A230
              clear A230
              by_cases c24 : t297 = true
              · subst c24
                have H1 : (if a0_3 = true then (if t296 = a0_2 then (some x11_19) else (some false)) else (some false)) = some r := by rw [if_pos rfl] at H; exact H
                clear H
                have H := H1
                clear H1
                by_cases c25 : a0_3 = true
                · subst c25
                  have H1 : (if t296 = a0_2 then (some x11_19) else (some false)) = some r := by rw [if_pos rfl] at H; exact H
                  clear H
                  have H := H1
                  clear H1
                  by_cases c26 : t296 = a0_2
                  · rw [if_pos c26] at H
                    have c26b0 : (t296 == a0_2) = true := beq_iff_eq.mpr c26
                    have c26b1 : (t296 != a0_2) = false := bne_eq_false_iff_eq.mpr c26
                    clear c26
                    obtain rfl := Option.some.inj H
                    go_wp2_with (first | (go_at_call 29; (with_reducible refine (spec_Address.calls kj19 t293 t296 true _ A23.out).mono ?_); rintro e w27 ⟨rfl, hb⟩; have n0_ := Aside0.mk (blk_below (g := gb287) (o := .cells #[.string a0_0, .string a0_1, .int .u32 a0_2, .bool true] 46 (0, 0)) (by (with_reducible repeat (first | refine blk_drewN ?_ _ | refine blk_drew ?_ | refine blk_alloc ?_ _)); exact BK287.out) hb); have n1_ := Aside0.mk (below_step (by repeat (first | (with_reducible first | exact HB.out | apply below_alloc | apply pw_below_drewN | apply below_drew1 | refine below_set ?_ GE287.out) | exact HB.out)) hb); clear BK287; clear HB; have BK287 := n0_; have HB := n1_; clear n0_ n1_; (try clear hb); (try clear hb2); (try clear hk); (try clear hi); have hcz28_0 : w27.cell? ⟨gb287, 0, none⟩ = some (.string a0_0) := (blk_cell BK287.out 0).trans rfl; have hcz28_1 : w27.cell? ⟨gb287, 1, none⟩ = some (.string a0_1) := (blk_cell BK287.out 1).trans rfl; have hcz28_2 : w27.cell? ⟨gb287, 2, none⟩ = some (.int .u32 a0_2) := (blk_cell BK287.out 2).trans rfl; have hcz28_3 : w27.cell? ⟨gb287, 3, none⟩ = some (.bool true) := (blk_cell BK287.out 3).trans rfl; have hfz28_0 := blk_frozen BK287.out 0; have hfz28_1 := blk_frozen BK287.out 1; have hfz28_2 := blk_frozen BK287.out 2; have hfz28_3 := blk_frozen BK287.out 3))
                    repeat (go_quiet (first | (go_at_call 29; (with_reducible refine (spec_Address.calls kj19 t293 t296 true _ A23.out).mono ?_); rintro e w27 ⟨rfl, hb⟩; have n0_ := Aside0.mk (blk_below (g := gb287) (o := .cells #[.string a0_0, .string a0_1, .int .u32 a0_2, .bool true] 46 (0, 0)) (by (with_reducible repeat (first | refine blk_drewN ?_ _ | refine blk_drew ?_ | refine blk_alloc ?_ _)); exact BK287.out) hb); have n1_ := Aside0.mk (below_step (by repeat (first | (with_reducible first | exact HB.out | apply below_alloc | apply pw_below_drewN | apply below_drew1 | refine below_set ?_ GE287.out) | exact HB.out)) hb); clear BK287; clear HB; have BK287 := n0_; have HB := n1_; clear n0_ n1_; (try clear hb); (try clear hb2); (try clear hk); (try clear hi); have hcz28_0 : w27.cell? ⟨gb287, 0, none⟩ = some (.string a0_0) := (blk_cell BK287.out 0).trans rfl; have hcz28_1 : w27.cell? ⟨gb287, 1, none⟩ = some (.string a0_1) := (blk_cell BK287.out 1).trans rfl; have hcz28_2 : w27.cell? ⟨gb287, 2, none⟩ = some (.int .u32 a0_2) := (blk_cell BK287.out 2).trans rfl; have hcz28_3 : w27.cell? ⟨gb287, 3, none⟩ = some (.bool true) := (blk_cell BK287.out 3).trans rfl; have hfz28_0 := blk_frozen BK287.out 0; have hfz28_1 := blk_frozen BK287.out 1; have hfz28_2 := blk_frozen BK287.out 2; have hfz28_3 := blk_frozen BK287.out 3)); try go_wp2_with (first | (go_at_call 29; (with_reducible refine (spec_Address.calls kj19 t293 t296 true _ A23.out).mono ?_); rintro e w27 ⟨rfl, hb⟩; have n0_ := Aside0.mk (blk_below (g := gb287) (o := .cells #[.string a0_0, .string a0_1, .int .u32 a0_2, .bool true] 46 (0, 0)) (by (with_reducible repeat (first | refine blk_drewN ?_ _ | refine blk_drew ?_ | refine blk_alloc ?_ _)); exact BK287.out) hb); have n1_ := Aside0.mk (below_step (by repeat (first | (with_reducible first | exact HB.out | apply below_alloc | apply pw_below_drewN | apply below_drew1 | refine below_set ?_ GE287.out) | exact HB.out)) hb); clear BK287; clear HB; have BK287 := n0_; have HB := n1_; clear n0_ n1_; (try clear hb); (try clear hb2); (try clear hk); (try clear hi); have hcz28_0 : w27.cell? ⟨gb287, 0, none⟩ = some (.string a0_0) := (blk_cell BK287.out 0).trans rfl; have hcz28_1 : w27.cell? ⟨gb287, 1, none⟩ = some (.string a0_1) := (blk_cell BK287.out 1).trans rfl; have hcz28_2 : w27.cell? ⟨gb287, 2, none⟩ = some (.int .u32 a0_2) := (blk_cell BK287.out 2).trans rfl; have hcz28_3 : w27.cell? ⟨gb287, 3, none⟩ = some (.bool true) := (blk_cell BK287.out 3).trans rfl; have hfz28_0 := blk_frozen BK287.out 0; have hfz28_1 := blk_frozen BK287.out 1; have hfz28_2 := blk_frozen BK287.out 2; have hfz28_3 := blk_frozen BK287.out 3)))
                    go_ret
                    exact ⟨by first | rfl | (simp [errW_none, errW_some] <;> rfl) | (simp [*, errW_none, errW_some] <;> rfl), by repeat (first | (with_reducible first | exact HB.out | apply below_alloc | apply pw_below_drewN | apply below_drew1 | refine below_set ?_ GE287.out) | exact HB.out)⟩
                  · rw [if_neg c26] at H
                    have c26b0 : (t296 == a0_2) = false := beq_eq_false_iff_ne.mpr c26
                    have c26b1 : (t296 != a0_2) = true := bne_iff_ne.mpr c26
                    obtain rfl := Option.some.inj H
                    go_wp2_with (first | (go_at_call 29; (with_reducible refine (spec_Address.calls kj19 t293 t296 true _ A23.out).mono ?_); rintro e w29 ⟨rfl, hb⟩; have n0_ := Aside0.mk (blk_below (g := gb287) (o := .cells #[.string a0_0, .string a0_1, .int .u32 a0_2, .bool true] 46 (0, 0)) (by (with_reducible repeat (first | refine blk_drewN ?_ _ | refine blk_drew ?_ | refine blk_alloc ?_ _)); exact BK287.out) hb); have n1_ := Aside0.mk (below_step (by repeat (first | (with_reducible first | exact HB.out | apply below_alloc | apply pw_below_drewN | apply below_drew1 | refine below_set ?_ GE287.out) | exact HB.out)) hb); clear BK287; clear HB; have BK287 := n0_; have HB := n1_; clear n0_ n1_; (try clear hb); (try clear hb2); (try clear hk); (try clear hi); have hcz30_0 : w29.cell? ⟨gb287, 0, none⟩ = some (.string a0_0) := (blk_cell BK287.out 0).trans rfl; have hcz30_1 : w29.cell? ⟨gb287, 1, none⟩ = some (.string a0_1) := (blk_cell BK287.out 1).trans rfl; have hcz30_2 : w29.cell? ⟨gb287, 2, none⟩ = some (.int .u32 a0_2) := (blk_cell BK287.out 2).trans rfl; have hcz30_3 : w29.cell? ⟨gb287, 3, none⟩ = some (.bool true) := (blk_cell BK287.out 3).trans rfl; have hfz30_0 := blk_frozen BK287.out 0; have hfz30_1 := blk_frozen BK287.out 1; have hfz30_2 := blk_frozen BK287.out 2; have hfz30_3 := blk_frozen BK287.out 3))
                    repeat (go_quiet (first | (go_at_call 29; (with_reducible refine (spec_Address.calls kj19 t293 t296 true _ A23.out).mono ?_); rintro e w29 ⟨rfl, hb⟩; have n0_ := Aside0.mk (blk_below (g := gb287) (o := .cells #[.string a0_0, .string a0_1, .int .u32 a0_2, .bool true] 46 (0, 0)) (by (with_reducible repeat (first | refine blk_drewN ?_ _ | refine blk_drew ?_ | refine blk_alloc ?_ _)); exact BK287.out) hb); have n1_ := Aside0.mk (below_step (by repeat (first | (with_reducible first | exact HB.out | apply below_alloc | apply pw_below_drewN | apply below_drew1 | refine below_set ?_ GE287.out) | exact HB.out)) hb); clear BK287; clear HB; have BK287 := n0_; have HB := n1_; clear n0_ n1_; (try clear hb); (try clear hb2); (try clear hk); (try clear hi); have hcz30_0 : w29.cell? ⟨gb287, 0, none⟩ = some (.string a0_0) := (blk_cell BK287.out 0).trans rfl; have hcz30_1 : w29.cell? ⟨gb287, 1, none⟩ = some (.string a0_1) := (blk_cell BK287.out 1).trans rfl; have hcz30_2 : w29.cell? ⟨gb287, 2, none⟩ = some (.int .u32 a0_2) := (blk_cell BK287.out 2).trans rfl; have hcz30_3 : w29.cell? ⟨gb287, 3, none⟩ = some (.bool true) := (blk_cell BK287.out 3).trans rfl; have hfz30_0 := blk_frozen BK287.out 0; have hfz30_1 := blk_frozen BK287.out 1; have hfz30_2 := blk_frozen BK287.out 2; have hfz30_3 := blk_frozen BK287.out 3)); try go_wp2_with (first | (go_at_call 29; (with_reducible refine (spec_Address.calls kj19 t293 t296 true _ A23.out).mono ?_); rintro e w29 ⟨rfl, hb⟩; have n0_ := Aside0.mk (blk_below (g := gb287) (o := .cells #[.string a0_0, .string a0_1, .int .u32 a0_2, .bool true] 46 (0, 0)) (by (with_reducible repeat (first | refine blk_drewN ?_ _ | refine blk_drew ?_ | refine blk_alloc ?_ _)); exact BK287.out) hb); have n1_ := Aside0.mk (below_step (by repeat (first | (with_reducible first | exact HB.out | apply below_alloc | apply pw_below_drewN | apply below_drew1 | refine below_set ?_ GE287.out) | exact HB.out)) hb); clear BK287; clear HB; have BK287 := n0_; have HB := n1_; clear n0_ n1_; (try clear hb); (try clear hb2); (try clear hk); (try clear hi); have hcz30_0 : w29.cell? ⟨gb287, 0, none⟩ = some (.string a0_0) := (blk_cell BK287.out 0).trans rfl; have hcz30_1 : w29.cell? ⟨gb287, 1, none⟩ = some (.string a0_1) := (blk_cell BK287.out 1).trans rfl; have hcz30_2 : w29.cell? ⟨gb287, 2, none⟩ = some (.int .u32 a0_2) := (blk_cell BK287.out 2).trans rfl; have hcz30_3 : w29.cell? ⟨gb287, 3, none⟩ = some (.bool true) := (blk_cell BK287.out 3).trans rfl; have hfz30_0 := blk_frozen BK287.out 0; have hfz30_1 := blk_frozen BK287.out 1; have hfz30_2 := blk_frozen BK287.out 2; have hfz30_3 := blk_frozen BK287.out 3)))
                    go_ret
                    exact ⟨by first | rfl | (simp [errW_none, errW_some] <;> rfl) | (simp [*, errW_none, errW_some] <;> rfl), by repeat (first | (with_reducible first | exact HB.out | apply below_alloc | apply pw_below_drewN | apply below_drew1 | refine below_set ?_ GE287.out) | exact HB.out)⟩
                · replace c25 := Bool.eq_false_iff.mpr c25
                  subst c25
                  have H1 : (some false) = some r := by rw [if_neg (show ¬ (false = true) by decide)] at H; exact H
                  clear H
                  have H := H1
                  clear H1
                  obtain rfl := Option.some.inj H
                  go_wp2_with (first | (go_at_call 29; (with_reducible refine (spec_Address.calls kj19 t293 t296 true _ A23.out).mono ?_); rintro e w31 ⟨rfl, hb⟩; have n0_ := Aside0.mk (blk_below (g := gb287) (o := .cells #[.string a0_0, .string a0_1, .int .u32 a0_2, .bool false] 46 (0, 0)) (by (with_reducible repeat (first | refine blk_drewN ?_ _ | refine blk_drew ?_ | refine blk_alloc ?_ _)); exact BK287.out) hb); have n1_ := Aside0.mk (below_step (by repeat (first | (with_reducible first | exact HB.out | apply below_alloc | apply pw_below_drewN | apply below_drew1 | refine below_set ?_ GE287.out) | exact HB.out)) hb); clear BK287; clear HB; have BK287 := n0_; have HB := n1_; clear n0_ n1_; (try clear hb); (try clear hb2); (try clear hk); (try clear hi); have hcz32_0 : w31.cell? ⟨gb287, 0, none⟩ = some (.string a0_0) := (blk_cell BK287.out 0).trans rfl; have hcz32_1 : w31.cell? ⟨gb287, 1, none⟩ = some (.string a0_1) := (blk_cell BK287.out 1).trans rfl; have hcz32_2 : w31.cell? ⟨gb287, 2, none⟩ = some (.int .u32 a0_2) := (blk_cell BK287.out 2).trans rfl; have hcz32_3 : w31.cell? ⟨gb287, 3, none⟩ = some (.bool false) := (blk_cell BK287.out 3).trans rfl; have hfz32_0 := blk_frozen BK287.out 0; have hfz32_1 := blk_frozen BK287.out 1; have hfz32_2 := blk_frozen BK287.out 2; have hfz32_3 := blk_frozen BK287.out 3))
                  repeat (go_quiet (first | (go_at_call 29; (with_reducible refine (spec_Address.calls kj19 t293 t296 true _ A23.out).mono ?_); rintro e w31 ⟨rfl, hb⟩; have n0_ := Aside0.mk (blk_below (g := gb287) (o := .cells #[.string a0_0, .string a0_1, .int .u32 a0_2, .bool false] 46 (0, 0)) (by (with_reducible repeat (first | refine blk_drewN ?_ _ | refine blk_drew ?_ | refine blk_alloc ?_ _)); exact BK287.out) hb); have n1_ := Aside0.mk (below_step (by repeat (first | (with_reducible first | exact HB.out | apply below_alloc | apply pw_below_drewN | apply below_drew1 | refine below_set ?_ GE287.out) | exact HB.out)) hb); clear BK287; clear HB; have BK287 := n0_; have HB := n1_; clear n0_ n1_; (try clear hb); (try clear hb2); (try clear hk); (try clear hi); have hcz32_0 : w31.cell? ⟨gb287, 0, none⟩ = some (.string a0_0) := (blk_cell BK287.out 0).trans rfl; have hcz32_1 : w31.cell? ⟨gb287, 1, none⟩ = some (.string a0_1) := (blk_cell BK287.out 1).trans rfl; have hcz32_2 : w31.cell? ⟨gb287, 2, none⟩ = some (.int .u32 a0_2) := (blk_cell BK287.out 2).trans rfl; have hcz32_3 : w31.cell? ⟨gb287, 3, none⟩ = some (.bool false) := (blk_cell BK287.out 3).trans rfl; have hfz32_0 := blk_frozen BK287.out 0; have hfz32_1 := blk_frozen BK287.out 1; have hfz32_2 := blk_frozen BK287.out 2; have hfz32_3 := blk_frozen BK287.out 3)); try go_wp2_with (first | (go_at_call 29; (with_reducible refine (spec_Address.calls kj19 t293 t296 true _ A23.out).mono ?_); rintro e w31 ⟨rfl, hb⟩; have n0_ := Aside0.mk (blk_below (g := gb287) (o := .cells #[.string a0_0, .string a0_1, .int .u32 a0_2, .bool false] 46 (0, 0)) (by (with_reducible repeat (first | refine blk_drewN ?_ _ | refine blk_drew ?_ | refine blk_alloc ?_ _)); exact BK287.out) hb); have n1_ := Aside0.mk (below_step (by repeat (first | (with_reducible first | exact HB.out | apply below_alloc | apply pw_below_drewN | apply below_drew1 | refine below_set ?_ GE287.out) | exact HB.out)) hb); clear BK287; clear HB; have BK287 := n0_; have HB := n1_; clear n0_ n1_; (try clear hb); (try clear hb2); (try clear hk); (try clear hi); have hcz32_0 : w31.cell? ⟨gb287, 0, none⟩ = some (.string a0_0) := (blk_cell BK287.out 0).trans rfl; have hcz32_1 : w31.cell? ⟨gb287, 1, none⟩ = some (.string a0_1) := (blk_cell BK287.out 1).trans rfl; have hcz32_2 : w31.cell? ⟨gb287, 2, none⟩ = some (.int .u32 a0_2) := (blk_cell BK287.out 2).trans rfl; have hcz32_3 : w31.cell? ⟨gb287, 3, none⟩ = some (.bool false) := (blk_cell BK287.out 3).trans rfl; have hfz32_0 := blk_frozen BK287.out 0; have hfz32_1 := blk_frozen BK287.out 1; have hfz32_2 := blk_frozen BK287.out 2; have hfz32_3 := blk_frozen BK287.out 3)))
                  go_ret
                  exact ⟨by first | rfl | (simp [errW_none, errW_some] <;> rfl) | (simp [*, errW_none, errW_some] <;> rfl), by repeat (first | (with_reducible first | exact HB.out | apply below_alloc | apply pw_below_drewN | apply below_drew1 | refine below_set ?_ GE287.out) | exact HB.out)⟩
              · replace c24 := Bool.eq_false_iff.mpr c24
                subst c24
                have H1 : ((spec_Begins.f t293 (⟨#[42, 46]⟩ : ByteArray)).bind fun t298 => (if t298 = true then (if 1 ≤ (t293.size : Int) then (spec_target_isFor.j2 kj19 (t293.extract 1 t293.size) x11_19 a0_0 a0_1 a0_2 a0_3) else (none)) else (spec_target_isFor.j2 kj19 t293 x11_19 a0_0 a0_1 a0_2 a0_3))) = some r := by rw [if_neg (show ¬ (false = true) by decide)] at H; exact H
                clear H
                have H := H1
                clear H1
                replace H := Option.bind_eq_some_iff.mp H
                obtain ⟨t298, A330, H⟩ := H
                replace H : (if t298 = true then (if 1 ≤ (t293.size : Int) then (spec_target_isFor.j2 kj19 (t293.extract 1 t293.size) x11_19 a0_0 a0_1 a0_2 a0_3) else (none)) else (spec_target_isFor.j2 kj19 t293 x11_19 a0_0 a0_1 a0_2 a0_3)) = some r := H
                have A33 := Aside0.mk A330
                clear A330
                have HC34 := Aside0.mk H
                clear H
                go_upto_if 70 with (first | (go_at_call 29; (with_reducible refine (spec_Address.calls kj19 t293 t296 false _ A23.out).mono ?_); rintro e w35 ⟨rfl, hb⟩; have n0_ := Aside0.mk (blk_below (g := gb287) (o := .cells #[.string a0_0, .string a0_1, .int .u32 a0_2, .bool a0_3] 46 (0, 0)) (by (with_reducible repeat (first | refine blk_drewN ?_ _ | refine blk_drew ?_ | refine blk_alloc ?_ _)); exact BK287.out) hb); have n1_ := Aside0.mk (below_step (by repeat (first | (with_reducible first | exact HB.out | apply below_alloc | apply pw_below_drewN | apply below_drew1 | refine below_set ?_ GE287.out) | exact HB.out)) hb); clear BK287; clear HB; have BK287 := n0_; have HB := n1_; clear n0_ n1_; (try clear hb); (try clear hb2); (try clear hk); (try clear hi)) | (go_at_call 40; (with_reducible refine (spec_Begins.calls t293 (⟨#[42, 46]⟩ : ByteArray) t298 _ A33.out).mono ?_); rintro e w' ⟨rfl, ⟨nd, rfl⟩⟩; (try first | exact ⟨rfl, _, World.drewN_drewN _ _ _⟩ | exact ⟨rfl, _, Eq.trans (World.drewN_drewN _ _ _) (congrArg (World.drewN _) (Nat.add_assoc _ _ _))⟩)))
                repeat (go_quiet (first | (go_at_call 29; (with_reducible refine (spec_Address.calls kj19 t293 t296 false _ A23.out).mono ?_); rintro e w35 ⟨rfl, hb⟩; have n0_ := Aside0.mk (blk_below (g := gb287) (o := .cells #[.string a0_0, .string a0_1, .int .u32 a0_2, .bool a0_3] 46 (0, 0)) (by (with_reducible repeat (first | refine blk_drewN ?_ _ | refine blk_drew ?_ | refine blk_alloc ?_ _)); exact BK287.out) hb); have n1_ := Aside0.mk (below_step (by repeat (first | (with_reducible first | exact HB.out | apply below_alloc | apply pw_below_drewN | apply below_drew1 | refine below_set ?_ GE287.out) | exact HB.out)) hb); clear BK287; clear HB; have BK287 := n0_; have HB := n1_; clear n0_ n1_; (try clear hb); (try clear hb2); (try clear hk); (try clear hi)) | (go_at_call 40; (with_reducible refine (spec_Begins.calls t293 (⟨#[42, 46]⟩ : ByteArray) t298 _ A33.out).mono ?_); rintro e w' ⟨rfl, ⟨nd, rfl⟩⟩; (try first | exact ⟨rfl, _, World.drewN_drewN _ _ _⟩ | exact ⟨rfl, _, Eq.trans (World.drewN_drewN _ _ _) (congrArg (World.drewN _) (Nat.add_assoc _ _ _))⟩))); go_upto_if 70 with (first | (go_at_call 29; (with_reducible refine (spec_Address.calls kj19 t293 t296 false _ A23.out).mono ?_); rintro e w35 ⟨rfl, hb⟩; have n0_ := Aside0.mk (blk_below (g := gb287) (o := .cells #[.string a0_0, .string a0_1, .int .u32 a0_2, .bool a0_3] 46 (0, 0)) (by (with_reducible repeat (first | refine blk_drewN ?_ _ | refine blk_drew ?_ | refine blk_alloc ?_ _)); exact BK287.out) hb); have n1_ := Aside0.mk (below_step (by repeat (first | (with_reducible first | exact HB.out | apply below_alloc | apply pw_below_drewN | apply below_drew1 | refine below_set ?_ GE287.out) | exact HB.out)) hb); clear BK287; clear HB; have BK287 := n0_; have HB := n1_; clear n0_ n1_; (try clear hb); (try clear hb2); (try clear hk); (try clear hi)) | (go_at_call 40; (with_reducible refine (spec_Begins.calls t293 (⟨#[42, 46]⟩ : ByteArray) t298 _ A33.out).mono ?_); rintro e w' ⟨rfl, ⟨nd, rfl⟩⟩; (try first | exact ⟨rfl, _, World.drewN_drewN _ _ _⟩ | exact ⟨rfl, _, Eq.trans (World.drewN_drewN _ _ _) (congrArg (World.drewN _) (Nat.add_assoc _ _ _))⟩))))
                (try simp only [Act.put, List.setIfInBounds_toArray, List.set_cons_zero, List.set_cons_succ])
                go_cut [8] (fun v8 wc => ∃ (kq : Nat) (x8_33 : ByteArray), v8 = .string x8_33 ∧ Aside0 (spec_target_isFor.j2 kq x8_33 x11_19 a0_0 a0_1 a0_2 a0_3 = some r) ∧ Aside0 (kq ≤ kj19) ∧ Aside0 (wc.heap[gb287]? = some (.cells #[.string a0_0, .string a0_1, .int .u32 a0_2, .bool a0_3] 46 (0, 0))) ∧ Aside0 (Below w.heap.size w wc))
                case first =>
                  have H := HC34.out
                  clear HC34
                  by_cases c36 : t298 = true
                  · subst c36
                    have H1 : (if 1 ≤ (t293.size : Int) then (spec_target_isFor.j2 kj19 (t293.extract 1 t293.size) x11_19 a0_0 a0_1 a0_2 a0_3) else (none)) = some r := by rw [if_pos rfl] at H; exact H
                    clear H
                    have H := H1
                    clear H1
                    by_cases c37 : 1 ≤ (t293.size : Int)
                    · rw [if_pos c37] at H
                      have c37b0 := eq_true c37
                      have c37b1 : decide (1 ≤ (t293.size : Int)) = true := decide_eq_true c37
                      clear c37
                      have H' := Aside0.mk H
                      clear H
                      go_wp2
                      repeat (go_quiet (fail); try go_wp2)
                      go_meet
                      case rel => exact ⟨_, (t293.extract 1 t293.size), (by first | rfl | (simp; done) | (simp [*]; done)), H', ⟨by have := HJ14.out; have := HJ19.out; first | omega | exact Nat.le_refl _⟩, ⟨by (with_reducible repeat (first | refine blk_drewN ?_ _ | refine blk_drew ?_ | refine blk_alloc ?_ _)); exact BK287.out⟩, ⟨by repeat (first | (with_reducible first | exact HB.out | apply below_alloc | apply pw_below_drewN | apply below_drew1 | refine below_set ?_ GE287.out) | exact HB.out)⟩⟩
                    · rw [if_neg c37] at H
                      exact absurd H (by simp)
                  · replace c36 := Bool.eq_false_iff.mpr c36
                    subst c36
                    have H1 : (spec_target_isFor.j2 kj19 t293 x11_19 a0_0 a0_1 a0_2 a0_3) = some r := by rw [if_neg (show ¬ (false = true) by decide)] at H; exact H
                    clear H
                    have H := H1
                    clear H1
                    have H' := Aside0.mk H
                    clear H
                    go_wp2
                    repeat (go_quiet (fail); try go_wp2)
                    go_meet
                    case rel => exact ⟨_, (t293), (by first | rfl | (simp; done) | (simp [*]; done)), H', ⟨by have := HJ14.out; have := HJ19.out; first | omega | exact Nat.le_refl _⟩, ⟨by (with_reducible repeat (first | refine blk_drewN ?_ _ | refine blk_drew ?_ | refine blk_alloc ?_ _)); exact BK287.out⟩, ⟨by repeat (first | (with_reducible first | exact HB.out | apply below_alloc | apply pw_below_drewN | apply below_drew1 | refine below_set ?_ GE287.out) | exact HB.out)⟩⟩
                case rest =>
                  clear HC34
                  try clear c1
                  try clear c2
                  try clear p2
                  try clear c3
                  try clear c4
                  try clear c5
                  try clear c18
                  try clear c19
                  try clear c21
                  try clear c21b0
                  try clear c21b1
                  try clear c24
                  try clear c25
                  try clear c26
                  try clear c26b0
                  try clear c26b1
                  try clear c30
                  try clear c36
                  try clear c37
                  try clear c37b0
                  try clear c37b1
                  try clear hcz10_0
                  try clear hcz10_1
                  try clear hcz10_2
                  try clear hcz10_3
                  try clear hcz13_0
                  try clear hcz13_1
                  try clear hcz13_2
                  try clear hcz13_3
                  try clear hcz22_0
                  try clear hcz22_1
                  try clear hcz22_2
                  try clear hcz22_3
                  try clear hcz28_0
                  try clear hcz28_1
                  try clear hcz28_2
                  try clear hcz28_3
                  try clear hcz30_0
                  try clear hcz30_1
                  try clear hcz30_2
                  try clear hcz30_3
                  try clear hcz32_0
                  try clear hcz32_1
                  try clear hcz32_2
                  try clear hcz32_3
                  try clear hfz10_0
                  try clear hfz10_1
                  try clear hfz10_2
                  try clear hfz10_3
                  try clear hfz13_0
                  try clear hfz13_1
                  try clear hfz13_2
                  try clear hfz13_3
                  try clear hfz22_0
                  try clear hfz22_1
                  try clear hfz22_2
                  try clear hfz22_3
                  try clear hfz28_0
                  try clear hfz28_1
                  try clear hfz28_2
                  try clear hfz28_3
                  try clear hfz30_0
                  try clear hfz30_1
                  try clear hfz30_2
                  try clear hfz30_3
                  try clear hfz32_0
                  try clear hfz32_1
                  try clear hfz32_2
                  try clear hfz32_3
                  try clear p2
                  obtain ⟨kq, x8_33, rfl, HA, HJ33, BK287, HB⟩ := hcut
                  cases kq with
                  | zero => exact absurd HA.out (by simp [spec_target_isFor.j2])
                  | succ kj33 =>
                    have H := HA.out
                    clear HA
                    simp only [spec_target_isFor.j2] at H
                    have HC38 := Aside0.mk H
                    clear H
                    go_upto_region 13 with (fail)
                    repeat (go_quiet (fail); go_upto_region 13 with (fail))
                    go_cut [78] (fun v78 wc => ∃ (kq : Nat) (x78_37 : Bool), v78 = .bool x78_37 ∧ Aside0 (spec_target_isFor.j3 kq x8_33 x78_37 a0_0 a0_1 a0_2 a0_3 = some r) ∧ Aside0 (kq ≤ kj33) ∧ Aside0 (wc.heap[gb287]? = some (.cells #[.string a0_0, .string a0_1, .int .u32 a0_2, .bool a0_3] 46 (0, 0))) ∧ Aside0 (Below w.heap.size w wc))
                    case first =>
                      have H := HC38.out
                      clear HC38
                      by_cases c39 : a0_3 = true
                      · subst c39
                        have H1 : (spec_target_isFor.j3 kj33 x8_33 true a0_0 a0_1 a0_2 true) = some r := by rw [if_pos rfl] at H; exact H
                        clear H
                        have H := H1
                        clear H1
                        have H' := Aside0.mk H
                        clear H
                        have hcz40_0 : wc.cell? ⟨gb287, 0, none⟩ = some (.string a0_0) := (blk_cell BK287.out 0).trans rfl
                        have hcz40_1 : wc.cell? ⟨gb287, 1, none⟩ = some (.string a0_1) := (blk_cell BK287.out 1).trans rfl
                        have hcz40_2 : wc.cell? ⟨gb287, 2, none⟩ = some (.int .u32 a0_2) := (blk_cell BK287.out 2).trans rfl
                        have hcz40_3 : wc.cell? ⟨gb287, 3, none⟩ = some (.bool true) := (blk_cell BK287.out 3).trans rfl
                        have hfz40_0 := blk_frozen BK287.out 0
                        have hfz40_1 := blk_frozen BK287.out 1
                        have hfz40_2 := blk_frozen BK287.out 2
                        have hfz40_3 := blk_frozen BK287.out 3
                        go_wp2
                        repeat (go_quiet (fail); try go_wp2)
                        go_meet
                        case rel => exact ⟨_, (true), (by first | rfl | (simp; done) | (simp [*]; done)), H', ⟨by have := HJ14.out; have := HJ19.out; have := HJ33.out; first | omega | exact Nat.le_refl _⟩, ⟨by (with_reducible repeat (first | refine blk_drewN ?_ _ | refine blk_drew ?_ | refine blk_alloc ?_ _)); exact BK287.out⟩, ⟨by repeat (first | (with_reducible first | exact HB.out | apply below_alloc | apply pw_below_drewN | apply below_drew1 | refine below_set ?_ GE287.out) | exact HB.out)⟩⟩
                      · replace c39 := Bool.eq_false_iff.mpr c39
                        subst c39
                        have H1 : (spec_target_isFor.j3 kj33 x8_33 (!x11_19) a0_0 a0_1 a0_2 false) = some r := by rw [if_neg (show ¬ (false = true) by decide)] at H; exact H
                        clear H
                        have H := H1
                        clear H1
                        have H' := Aside0.mk H
                        clear H
                        have hcz41_0 : wc.cell? ⟨gb287, 0, none⟩ = some (.string a0_0) := (blk_cell BK287.out 0).trans rfl
                        have hcz41_1 : wc.cell? ⟨gb287, 1, none⟩ = some (.string a0_1) := (blk_cell BK287.out 1).trans rfl
                        have hcz41_2 : wc.cell? ⟨gb287, 2, none⟩ = some (.int .u32 a0_2) := (blk_cell BK287.out 2).trans rfl
                        have hcz41_3 : wc.cell? ⟨gb287, 3, none⟩ = some (.bool false) := (blk_cell BK287.out 3).trans rfl
                        have hfz41_0 := blk_frozen BK287.out 0
                        have hfz41_1 := blk_frozen BK287.out 1
                        have hfz41_2 := blk_frozen BK287.out 2
                        have hfz41_3 := blk_frozen BK287.out 3
                        go_wp2
                        repeat (go_quiet (fail); try go_wp2)
                        go_meet
                        case rel => exact ⟨_, (!x11_19), (by first | rfl | (simp; done) | (simp [*]; done)), H', ⟨by have := HJ14.out; have := HJ19.out; have := HJ33.out; first | omega | exact Nat.le_refl _⟩, ⟨by (with_reducible repeat (first | refine blk_drewN ?_ _ | refine blk_drew ?_ | refine blk_alloc ?_ _)); exact BK287.out⟩, ⟨by repeat (first | (with_reducible first | exact HB.out | apply below_alloc | apply pw_below_drewN | apply below_drew1 | refine below_set ?_ GE287.out) | exact HB.out)⟩⟩
                    case rest =>
                      clear HC38
                      try clear c1
                      try clear c2
                      try clear p2
                      try clear c3
                      try clear c4
                      try clear c5
                      try clear c18
                      try clear c19
                      try clear c21
                      try clear c21b0
                      try clear c21b1
                      try clear c24
                      try clear c25
                      try clear c26
                      try clear c26b0
                      try clear c26b1
                      try clear c30
                      try clear c36
                      try clear c37
                      try clear c37b0
                      try clear c37b1
                      try clear c39
                      try clear hcz10_0
                      try clear hcz10_1
                      try clear hcz10_2
                      try clear hcz10_3
                      try clear hcz13_0
                      try clear hcz13_1
                      try clear hcz13_2
                      try clear hcz13_3
                      try clear hcz22_0
                      try clear hcz22_1
                      try clear hcz22_2
                      try clear hcz22_3
                      try clear hcz28_0
                      try clear hcz28_1
                      try clear hcz28_2
                      try clear hcz28_3
                      try clear hcz30_0
                      try clear hcz30_1
                      try clear hcz30_2
                      try clear hcz30_3
                      try clear hcz32_0
                      try clear hcz32_1
                      try clear hcz32_2
                      try clear hcz32_3
                      try clear hcz40_0
                      try clear hcz40_1
                      try clear hcz40_2
                      try clear hcz40_3
                      try clear hcz41_0
                      try clear hcz41_1
                      try clear hcz41_2
                      try clear hcz41_3
                      try clear hfz10_0
                      try clear hfz10_1
                      try clear hfz10_2
                      try clear hfz10_3
                      try clear hfz13_0
                      try clear hfz13_1
                      try clear hfz13_2
                      try clear hfz13_3
                      try clear hfz22_0
                      try clear hfz22_1
                      try clear hfz22_2
                      try clear hfz22_3
                      try clear hfz28_0
                      try clear hfz28_1
                      try clear hfz28_2
                      try clear hfz28_3
                      try clear hfz30_0
                      try clear hfz30_1
                      try clear hfz30_2
                      try clear hfz30_3
                      try clear hfz32_0
                      try clear hfz32_1
                      try clear hfz32_2
                      try clear hfz32_3
                      try clear hfz40_0
                      try clear hfz40_1
                      try clear hfz40_2
                      try clear hfz40_3
                      try clear hfz41_0
                      try clear hfz41_1
                      try clear hfz41_2
                      try clear hfz41_3
                      try clear p2
                      obtain ⟨kq, x78_37, rfl, HA, HJ37, BK287, HB⟩ := hcut
                      cases kq with
                      | zero => exact absurd HA.out (by simp [spec_target_isFor.j3])
                      | succ kj37 =>
                        have H := HA.out
                        clear HA
                        simp only [spec_target_isFor.j3] at H
                        by_cases c42 : x78_37 = true
                        · subst c42
                          have H1 : (some false) = some r := by rw [if_pos rfl] at H; exact H
                          clear H
                          have H := H1
                          clear H1
                          obtain rfl := Option.some.inj H
                          go_wp2
                          repeat (go_quiet (fail); try go_wp2)
                          go_ret
                          exact ⟨by first | rfl | (simp [errW_none, errW_some] <;> rfl) | (simp [*, errW_none, errW_some] <;> rfl), by repeat (first | (with_reducible first | exact HB.out | apply below_alloc | apply pw_below_drewN | apply below_drew1 | refine below_set ?_ GE287.out) | exact HB.out)⟩
                        · replace c42 := Bool.eq_false_iff.mpr c42
                          subst c42
                          have H1 : (if 0 < (x8_33.size : Int) then (if (bt x8_33 0) = 46 then ((spec_Ends.f a0_0 x8_33).bind fun t299 => (some t299)) else (if a0_0.toList = x8_33.toList then (some true) else (if 1 + x8_33.size ≤ 9223372036854775807 then ((spec_Ends.f a0_0 ((⟨#[46]⟩ : ByteArray) ++ x8_33)).bind fun t300 => (some t300)) else (none)))) else (none)) = some r := by rw [if_neg (show ¬ (false = true) by decide)] at H; exact H
                          clear H
                          have H := H1
                          clear H1
                          by_cases c43 : 0 < (x8_33.size : Int)
                          · rw [if_pos c43] at H
                            have c43b0 : decide (0 < (x8_33.size : Int)) = true := decide_eq_true c43
                            have c43b1 : decide (0 < x8_33.size) = true := decide_eq_true (by omega)
                            clear c43
                            by_cases c45 : (bt x8_33 0) = 46
                            · rw [if_pos c45] at H
                              have c45b0 : ((bt x8_33 0) == 46) = true := beq_iff_eq.mpr c45
                              have c45b1 : ((bt x8_33 0) != 46) = false := bne_eq_false_iff_eq.mpr c45
                              clear c45
                              replace H := Option.bind_eq_some_iff.mp H
                              obtain ⟨t299, A460, H⟩ := H
                              replace H : (some t299) = some r := H
                              have A46 := Aside0.mk A460
                              clear A460
                              obtain rfl := Option.some.inj H
                              have p44 : 0 ≤ (0 : Int) := (by omega)
                              have q44 : 0 < x8_33.size := (by have : (0 : Int) < (x8_33.size : Int) := of_decide_eq_true (by first | (with_reducible assumption) | assumption); omega)
                              have hx44 : ∀ h : 0 < x8_33.size, ((x8_33[0]'h).toNat : Int) = bt x8_33 0 := bt_at x8_33 0
                              clear p44
                              have qi44 : (0 < (x8_33.size : Int)) = True := eq_true (of_decide_eq_true (by first | (with_reducible assumption) | assumption))
                              replace q44 := eq_true q44
                              have hcz47_0 : wc.cell? ⟨gb287, 0, none⟩ = some (.string a0_0) := (blk_cell BK287.out 0).trans rfl
                              have hcz47_1 : wc.cell? ⟨gb287, 1, none⟩ = some (.string a0_1) := (blk_cell BK287.out 1).trans rfl
                              have hcz47_2 : wc.cell? ⟨gb287, 2, none⟩ = some (.int .u32 a0_2) := (blk_cell BK287.out 2).trans rfl
                              have hcz47_3 : wc.cell? ⟨gb287, 3, none⟩ = some (.bool a0_3) := (blk_cell BK287.out 3).trans rfl
                              have hfz47_0 := blk_frozen BK287.out 0
                              have hfz47_1 := blk_frozen BK287.out 1
                              have hfz47_2 := blk_frozen BK287.out 2
                              have hfz47_3 := blk_frozen BK287.out 3
                              go_wp2_with (first | (go_at_call 41; (with_reducible refine (spec_Ends.calls a0_0 x8_33 t299 _ A46.out).mono ?_); rintro e w' ⟨rfl, ⟨nd, rfl⟩⟩; (try first | exact ⟨rfl, _, World.drewN_drewN _ _ _⟩ | exact ⟨rfl, _, Eq.trans (World.drewN_drewN _ _ _) (congrArg (World.drewN _) (Nat.add_assoc _ _ _))⟩)))
                              repeat (go_quiet (first | (go_at_call 41; (with_reducible refine (spec_Ends.calls a0_0 x8_33 t299 _ A46.out).mono ?_); rintro e w' ⟨rfl, ⟨nd, rfl⟩⟩; (try first | exact ⟨rfl, _, World.drewN_drewN _ _ _⟩ | exact ⟨rfl, _, Eq.trans (World.drewN_drewN _ _ _) (congrArg (World.drewN _) (Nat.add_assoc _ _ _))⟩))); try go_wp2_with (first | (go_at_call 41; (with_reducible refine (spec_Ends.calls a0_0 x8_33 t299 _ A46.out).mono ?_); rintro e w' ⟨rfl, ⟨nd, rfl⟩⟩; (try first | exact ⟨rfl, _, World.drewN_drewN _ _ _⟩ | exact ⟨rfl, _, Eq.trans (World.drewN_drewN _ _ _) (congrArg (World.drewN _) (Nat.add_assoc _ _ _))⟩))))
                              go_ret
                              exact ⟨by first | rfl | (simp [errW_none, errW_some] <;> rfl) | (simp [*, errW_none, errW_some] <;> rfl), by repeat (first | (with_reducible first | exact HB.out | apply below_alloc | apply pw_below_drewN | apply below_drew1 | refine below_set ?_ GE287.out) | exact HB.out)⟩
                            · rw [if_neg c45] at H
                              have c45b0 : ((bt x8_33 0) == 46) = false := beq_eq_false_iff_ne.mpr c45
                              have c45b1 : ((bt x8_33 0) != 46) = true := bne_iff_ne.mpr c45
                              by_cases c48 : a0_0.toList = x8_33.toList
                              · rw [if_pos c48] at H
                                have c48b0 : (a0_0.toList == x8_33.toList) = true := beq_iff_eq.mpr c48
                                have c48b1 : (a0_0.toList != x8_33.toList) = false := bne_eq_false_iff_eq.mpr c48
                                clear c48
                                obtain rfl := Option.some.inj H
                                have p44 : 0 ≤ (0 : Int) := (by omega)
                                have q44 : 0 < x8_33.size := (by have : (0 : Int) < (x8_33.size : Int) := of_decide_eq_true (by first | (with_reducible assumption) | assumption); omega)
                                have hx44 : ∀ h : 0 < x8_33.size, ((x8_33[0]'h).toNat : Int) = bt x8_33 0 := bt_at x8_33 0
                                clear p44
                                have qi44 : (0 < (x8_33.size : Int)) = True := eq_true (of_decide_eq_true (by first | (with_reducible assumption) | assumption))
                                replace q44 := eq_true q44
                                have hcz49_0 : wc.cell? ⟨gb287, 0, none⟩ = some (.string a0_0) := (blk_cell BK287.out 0).trans rfl
                                have hcz49_1 : wc.cell? ⟨gb287, 1, none⟩ = some (.string a0_1) := (blk_cell BK287.out 1).trans rfl
                                have hcz49_2 : wc.cell? ⟨gb287, 2, none⟩ = some (.int .u32 a0_2) := (blk_cell BK287.out 2).trans rfl
                                have hcz49_3 : wc.cell? ⟨gb287, 3, none⟩ = some (.bool a0_3) := (blk_cell BK287.out 3).trans rfl
                                have hfz49_0 := blk_frozen BK287.out 0
                                have hfz49_1 := blk_frozen BK287.out 1
                                have hfz49_2 := blk_frozen BK287.out 2
                                have hfz49_3 := blk_frozen BK287.out 3
                                go_wp2
                                repeat (go_quiet (fail); try go_wp2)
                                go_ret
                                exact ⟨by first | rfl | (simp [errW_none, errW_some] <;> rfl) | (simp [*, errW_none, errW_some] <;> rfl), by repeat (first | (with_reducible first | exact HB.out | apply below_alloc | apply pw_below_drewN | apply below_drew1 | refine below_set ?_ GE287.out) | exact HB.out)⟩
                              · rw [if_neg c48] at H
                                have c48b0 : (a0_0.toList == x8_33.toList) = false := beq_eq_false_iff_ne.mpr c48
                                have c48b1 : (a0_0.toList != x8_33.toList) = true := bne_iff_ne.mpr c48
                                by_cases c50 : 1 + x8_33.size ≤ 9223372036854775807
                                · rw [if_pos c50] at H
                                  have c50b0 := eq_true c50
                                  have c50b1 : decide (1 + x8_33.size ≤ 9223372036854775807) = true := decide_eq_true c50
                                  try have c50b2 : (9223372036854775807 < 1 + x8_33.size) = False := eq_false (Nat.not_lt.2 c50)
                                  replace H := Option.bind_eq_some_iff.mp H
                                  obtain ⟨t300, A510, H⟩ := H
                                  replace H : (some t300) = some r := H
                                  have A51 := Aside0.mk A510
                                  clear A510
                                  obtain rfl := Option.some.inj H
                                  have p44 : 0 ≤ (0 : Int) := (by omega)
                                  have q44 : 0 < x8_33.size := (by have : (0 : Int) < (x8_33.size : Int) := of_decide_eq_true (by first | (with_reducible assumption) | assumption); omega)
                                  have hx44 : ∀ h : 0 < x8_33.size, ((x8_33[0]'h).toNat : Int) = bt x8_33 0 := bt_at x8_33 0
                                  clear p44
                                  have qi44 : (0 < (x8_33.size : Int)) = True := eq_true (of_decide_eq_true (by first | (with_reducible assumption) | assumption))
                                  replace q44 := eq_true q44
                                  have hcz52_0 : wc.cell? ⟨gb287, 0, none⟩ = some (.string a0_0) := (blk_cell BK287.out 0).trans rfl
                                  have hcz52_1 : wc.cell? ⟨gb287, 1, none⟩ = some (.string a0_1) := (blk_cell BK287.out 1).trans rfl
                                  have hcz52_2 : wc.cell? ⟨gb287, 2, none⟩ = some (.int .u32 a0_2) := (blk_cell BK287.out 2).trans rfl
                                  have hcz52_3 : wc.cell? ⟨gb287, 3, none⟩ = some (.bool a0_3) := (blk_cell BK287.out 3).trans rfl
                                  have hfz52_0 := blk_frozen BK287.out 0
                                  have hfz52_1 := blk_frozen BK287.out 1
                                  have hfz52_2 := blk_frozen BK287.out 2
                                  have hfz52_3 := blk_frozen BK287.out 3
                                  go_wp2_with (first | (go_at_call 41; (with_reducible refine (spec_Ends.calls a0_0 ((⟨#[46]⟩ : ByteArray) ++ x8_33) t300 _ A51.out).mono ?_); rintro e w' ⟨rfl, ⟨nd, rfl⟩⟩; (try first | exact ⟨rfl, _, World.drewN_drewN _ _ _⟩ | exact ⟨rfl, _, Eq.trans (World.drewN_drewN _ _ _) (congrArg (World.drewN _) (Nat.add_assoc _ _ _))⟩)))
                                  repeat (go_quiet (first | (go_at_call 41; (with_reducible refine (spec_Ends.calls a0_0 ((⟨#[46]⟩ : ByteArray) ++ x8_33) t300 _ A51.out).mono ?_); rintro e w' ⟨rfl, ⟨nd, rfl⟩⟩; (try first | exact ⟨rfl, _, World.drewN_drewN _ _ _⟩ | exact ⟨rfl, _, Eq.trans (World.drewN_drewN _ _ _) (congrArg (World.drewN _) (Nat.add_assoc _ _ _))⟩))); try go_wp2_with (first | (go_at_call 41; (with_reducible refine (spec_Ends.calls a0_0 ((⟨#[46]⟩ : ByteArray) ++ x8_33) t300 _ A51.out).mono ?_); rintro e w' ⟨rfl, ⟨nd, rfl⟩⟩; (try first | exact ⟨rfl, _, World.drewN_drewN _ _ _⟩ | exact ⟨rfl, _, Eq.trans (World.drewN_drewN _ _ _) (congrArg (World.drewN _) (Nat.add_assoc _ _ _))⟩))))
                                  go_ret
                                  exact ⟨by first | rfl | (simp [errW_none, errW_some] <;> rfl) | (simp [*, errW_none, errW_some] <;> rfl), by repeat (first | (with_reducible first | exact HB.out | apply below_alloc | apply pw_below_drewN | apply below_drew1 | refine below_set ?_ GE287.out) | exact HB.out)⟩
                                · rw [if_neg c50] at H
                                  exact absurd H (by simp)
                          · rw [if_neg c43] at H
                            exact absurd H (by simp)

-- NOT PRINTED: function 13 (spec_Uses)

-- NOT PRINTED: function 3 (laws_FnUseAny)

end Go.Proofs.YtpemdpfageikfaaGreatDoor.Q
/-
  Contracts of httpproxy.isASCII, netcidr.isZeros, BEPutUint32 and BEUint64.
  Written by the kit's print.sh for this seat, sections of it laid into this text by a small program (wip/tools/mkq.py); namespace Q.
-/
namespace Go.Proofs.YtpemdpfageikfaaGreatDoor.Q
open Go.RowKit Go.Proofs.YtpemdpfageikfaaGreatDoorW.PrintWords Go.Proofs.YtpemdpfageikfaaGreatDoorW.PrintLast Go.Proofs.YtpemdpfageikfaaGreatDoorW.PrintMore
attribute [local go_sem] max2_int min2_int max_two min_two max_three min_three max_four min_four   -- for this text's walks alone
set_option linter.unusedVariables false
set_option linter.unusedSimpArgs false

/-! ### httpproxy_isASCII: function 84 -/
def httpproxy_isASCII.l0 : Nat → ByteArray → Int → Option (Bool)
  | 0, _, _ => none
  | k + 1, x0, x3 => if x3 < (x0.size : Int) then (if 0 ≤ x3 then (if (bt x0 x3) ≥ 128 then (some false) else (httpproxy_isASCII.l0 k x0 (wrap64 (x3 + 1)))) else (none)) else (some true)
def httpproxy_isASCII.f (k : Nat) (a0 : ByteArray) : Option (Bool) := httpproxy_isASCII.l0 k a0 0
theorem httpproxy_isASCII.mono_l : ∀ k, (∀ y0 y1, LeO (httpproxy_isASCII.l0 k y0 y1) (httpproxy_isASCII.l0 (k + 1) y0 y1))
  | 0 => fun _ _ r h => by simp [httpproxy_isASCII.l0] at h
  | k + 1 => by
    have ih0 := httpproxy_isASCII.mono_l k
    · intro y0 y1
      unfold httpproxy_isASCII.l0
      repeat' first
      | (with_reducible exact ih0 _ _)
      | (with_reducible exact LeO.refl _)
      | (with_reducible exact LeO.none _)
      | (with_reducible refine LeO.ite ?_ ?_)
      | (with_reducible refine LeO.bind ?_ (fun _ => ?_))
      | exact ih0 _ _
      | exact LeO.none _
      | refine LeO.ite ?_ ?_
      | refine LeO.bind ?_ (fun _ => ?_)
theorem httpproxy_isASCII.mono : ∀ a0 k, LeO (httpproxy_isASCII.f k a0) (httpproxy_isASCII.f (k + 1) a0) := by
  intro a0 k
  have ih0 := httpproxy_isASCII.mono_l k
  unfold httpproxy_isASCII.f
  repeat' first
      | (with_reducible exact ih0 _ _)
      | (with_reducible exact LeO.refl _)
      | (with_reducible exact LeO.none _)
      | (with_reducible refine LeO.ite ?_ ?_)
      | (with_reducible refine LeO.bind ?_ (fun _ => ?_))
      | exact ih0 _ _
      | exact LeO.none _
      | refine LeO.ite ?_ ?_
      | refine LeO.bind ?_ (fun _ => ?_)
set_option maxHeartbeats 8000000 in
set_option maxRecDepth 100000 in
theorem httpproxy_isASCII.calls (k : Nat) (a0 : ByteArray) (r : Bool) (w : World) (h : httpproxy_isASCII.f k a0 = some r) :
    Calls Tryz.prog 84 #[.string a0] w fun e w' => e = .returned (.bool r) ∧ Drawn0 w w' := by
  have H : (httpproxy_isASCII.l0 k a0 0) = some r := h
  clear h
  have H' := Aside0.mk H
  clear H
  go_enter Tryz.func84, Tryz.ntmps84
  go_wp2
  go_loopg [3] k (fun kq v3 w' => ∃ (x3_1 : Int), v3 = .int .i64 x3_1 ∧ Aside0 (httpproxy_isASCII.l0 kq a0 x3_1 = some r) ∧ Aside0 (kq ≤ k) ∧ Drawn0 w w')
  case atStart => exact ⟨(0), (by first | rfl | (simp; done) | (simp [*]; done)), H', ⟨Nat.le_refl _⟩, by repeat (first | exact Drawn0.refl _ | apply Drawn0.step)⟩
  case round =>
    clear H'
    obtain ⟨x3_1, rfl, HA, HK1, ⟨m1, rfl⟩⟩ := hrel
    cases gk with
    | zero => exact absurd HA.out (by simp [httpproxy_isASCII.l0])
    | succ k1 =>
      have H := HA.out
      clear HA
      simp only [httpproxy_isASCII.l0] at H
      by_cases c2 : x3_1 < (a0.size : Int)
      · rw [if_pos c2] at H
        have c2b0 : decide (x3_1 < (a0.size : Int)) = true := decide_eq_true c2
        clear c2
        by_cases c3 : 0 ≤ x3_1
        · rw [if_pos c3] at H
          have c3b0 : decide (0 ≤ x3_1) = true := decide_eq_true c3
          clear c3
          by_cases c5 : (bt a0 x3_1) ≥ 128
          · rw [if_pos c5] at H
            have c5b0 : decide (128 ≤ (bt a0 x3_1)) = true := decide_eq_true c5
            clear c5
            obtain rfl := Option.some.inj H
            have p4 : 0 ≤ (x3_1 : Int) := of_decide_eq_true (by first | (with_reducible assumption) | assumption)
            have q4 : x3_1 < (a0.size : Int) := of_decide_eq_true (by first | (with_reducible assumption) | assumption)
            have hx4 := bt_at a0 x3_1
            replace p4 := eq_true p4
            replace q4 := eq_true q4
            go_wp2
            go_ret
            exact ⟨by first | rfl | (simp; done) | (simp [*]; done), by repeat (first | exact Drawn0.refl _ | apply Drawn0.step)⟩
          · rw [if_neg c5] at H
            have c5b0 : decide (128 ≤ (bt a0 x3_1)) = false := decide_eq_false c5
            clear c5
            have H' := Aside0.mk H
            clear H
            have p4 : 0 ≤ (x3_1 : Int) := of_decide_eq_true (by first | (with_reducible assumption) | assumption)
            have q4 : x3_1 < (a0.size : Int) := of_decide_eq_true (by first | (with_reducible assumption) | assumption)
            have hx4 := bt_at a0 x3_1
            replace p4 := eq_true p4
            replace q4 := eq_true q4
            go_wp2
            go_roundg k1
            case measure => have := HK1.out; omega
            case rel => exact ⟨(wrap64 (x3_1 + 1)), (by first | rfl | (simp; done) | (simp [*]; done)), H', ⟨by have := HK1.out; omega⟩, by repeat (first | exact Drawn0.refl _ | apply Drawn0.step)⟩
        · rw [if_neg c3] at H
          exact absurd H (by simp)
      · rw [if_neg c2] at H
        have c2b0 : decide (x3_1 < (a0.size : Int)) = false := decide_eq_false c2
        clear c2
        obtain rfl := Option.some.inj H
        go_wp2
        go_ret
        exact ⟨by first | rfl | (simp; done) | (simp [*]; done), by repeat (first | exact Drawn0.refl _ | apply Drawn0.step)⟩

-- NOT PRINTED: function 52 (httpproxy_idnaASCII)

-- NOT PRINTED: function 34 (httpproxy_config_init)

/-! ### byteorder_BEPutUint32: function 87 -/
def byteorder_BEPutUint32.f (l0 : List Int) (a1 : Int) : Option (List Int) := if 3 < (l0.length : Int) then (if 0 < (l0.length : Int) then (if 1 < (l0.length : Int) then (if 2 < (l0.length : Int) then (some ((((l0.set (0 : Int).toNat ((a1 / 16777216) % 256)).set (1 : Int).toNat ((a1 / 65536) % 256)).set (2 : Int).toNat ((a1 / 256) % 256)).set (3 : Int).toNat ((a1) % 256))) else (none)) else (none)) else (none)) else (none)
set_option maxHeartbeats 8000000 in
set_option maxRecDepth 100000 in
theorem byteorder_BEPutUint32.calls (P0_ : Nat → Prop) (u9000_ : Value) (l0 : List Int) (a1 : Int) (r : List Int) (w0 w : World) (hB : Below w0.heap.size w0 w) (ho0 : Kd.R (Kd.int .u8) 5 w w0.heap.size P0_ u9000_ l0) (h : byteorder_BEPutUint32.f l0 a1 = some r) :
    Calls Tryz.prog 87 #[u9000_, .int .u32 a1] w fun e w' => e = .returned (.tuple #[]) ∧ Kd.R (Kd.int .u8) 5 w' w0.heap.size (fun k_ => (P0_ k_ ∨ w.heap.size ≤ k_)) u9000_ r ∧ Below w0.heap.size w0 w' ∧ Kept w w' (fun k_ => P0_ k_) := by
  have HO0 := Aside0.mk (show Kd.R (Kd.int .u8) 5 w w0.heap.size (fun k_ => (P0_ k_ ∨ w.heap.size ≤ k_)) u9000_ l0 from Kd.R_mono ho0 (fun k_ hk => (.inl hk)))
  have HK := Aside0.mk (Kept.refl w (fun k_ => P0_ k_))
  have HW0 := Aside0.mk hB.size
  have HB := Aside0.mk hB
  clear hB
  have H : (if 3 < (l0.length : Int) then (if 0 < (l0.length : Int) then (if 1 < (l0.length : Int) then (if 2 < (l0.length : Int) then (some ((((l0.set (0 : Int).toNat ((a1 / 16777216) % 256)).set (1 : Int).toNat ((a1 / 65536) % 256)).set (2 : Int).toNat ((a1 / 256) % 256)).set (3 : Int).toNat ((a1) % 256))) else (none)) else (none)) else (none)) else (none)) = some r := h
  clear h
  by_cases c3 : 3 < (l0.length : Int)
  · rw [if_pos c3] at H
    have c3b0 : decide (3 < (l0.length : Int)) = true := decide_eq_true c3
    have c3b1 : decide (3 < l0.length) = true := decide_eq_true (by omega)
    clear c3
    by_cases c4 : 0 < (l0.length : Int)
    · rw [if_pos c4] at H
      have c4b0 : decide (0 < (l0.length : Int)) = true := decide_eq_true c4
      have c4b1 : decide (0 < l0.length) = true := decide_eq_true (by omega)
      clear c4
      obtain ⟨y238, hy238⟩ : ∃ y_ : List Int, y_ = (l0.set (0 : Int).toNat ((a1 / 16777216) % 256)) := ⟨_, rfl⟩
      replace H : (if 1 < (l0.length : Int) then (if 2 < (l0.length : Int) then (some (((y238.set (1 : Int).toNat ((a1 / 65536) % 256)).set (2 : Int).toNat ((a1 / 256) % 256)).set (3 : Int).toNat ((a1) % 256))) else (none)) else (none)) = some r := by first | (rw [hy238]; with_reducible exact H) | (have H2_ := (Option.bind_some _ _).symm.trans H; rw [hy238]; with_reducible exact H2_) | (have H2_ := (Option.bind_some _ _).symm.trans H; with_reducible exact H2_) | with_reducible exact H | (rw [hy238]; exact H) | exact H
      have Ny238 := Aside0.mk hy238
      clear hy238
      by_cases c6 : 1 < (l0.length : Int)
      · rw [if_pos c6] at H
        have c6b0 : decide (1 < (l0.length : Int)) = true := decide_eq_true c6
        have c6b1 : decide (1 < l0.length) = true := decide_eq_true (by omega)
        clear c6
        obtain ⟨y239, hy239⟩ : ∃ y_ : List Int, y_ = (y238.set (1 : Int).toNat ((a1 / 65536) % 256)) := ⟨_, rfl⟩
        replace H : (if 2 < (l0.length : Int) then (some ((y239.set (2 : Int).toNat ((a1 / 256) % 256)).set (3 : Int).toNat ((a1) % 256))) else (none)) = some r := by first | (rw [hy239]; with_reducible exact H) | (have H2_ := (Option.bind_some _ _).symm.trans H; rw [hy239]; with_reducible exact H2_) | (have H2_ := (Option.bind_some _ _).symm.trans H; with_reducible exact H2_) | with_reducible exact H | (rw [hy239]; exact H) | exact H
        have Ny239 := Aside0.mk hy239
        clear hy239
        by_cases c8 : 2 < (l0.length : Int)
        · rw [if_pos c8] at H
          have c8b0 : decide (2 < (l0.length : Int)) = true := decide_eq_true c8
          have c8b1 : decide (2 < l0.length) = true := decide_eq_true (by omega)
          clear c8
          obtain ⟨y240, hy240⟩ : ∃ y_ : List Int, y_ = (y239.set (2 : Int).toNat ((a1 / 256) % 256)) := ⟨_, rfl⟩
          replace H : (some (y240.set (3 : Int).toNat ((a1) % 256))) = some r := by first | (rw [hy240]; with_reducible exact H) | (have H2_ := (Option.bind_some _ _).symm.trans H; rw [hy240]; with_reducible exact H2_) | (have H2_ := (Option.bind_some _ _).symm.trans H; with_reducible exact H2_) | with_reducible exact H | (rw [hy240]; exact H) | exact H
          have Ny240 := Aside0.mk hy240
          clear hy240
          obtain ⟨y241, hy241⟩ : ∃ y_ : List Int, y_ = (y240.set (3 : Int).toNat ((a1) % 256)) := ⟨_, rfl⟩
          replace H : (some y241) = some r := by first | (rw [hy241]; with_reducible exact H) | (have H2_ := (Option.bind_some _ _).symm.trans H; rw [hy241]; with_reducible exact H2_) | (have H2_ := (Option.bind_some _ _).symm.trans H; with_reducible exact H2_) | with_reducible exact H | (rw [hy241]; exact H) | exact H
          have Ny241 := Aside0.mk hy241
          clear hy241
          obtain rfl := Option.some.inj H
          obtain ⟨Ao11, co11, eo11⟩ := Kd.R_slice HO0.out
          subst eo11
          have p237 : 0 ≤ (3 : Int) := (by omega)
          have q237 : 3 < (l0.length : Int) := of_decide_eq_true (by first | (with_reducible assumption) | assumption)
          obtain ⟨ad237, e237, hx237_0⟩ := Kd.at_int (Kd.R_reads' HO0.out).2.2 3 p237 q237
          cases e237
          (try simp only [show (3 : Int).toNat = 3 from rfl, Nat.reduceMul, Nat.reduceEqDiff, Go.Addr.add, ↓reduceIte] at hx237_0)
          have qi237 : (3 < l0.length) = True := eq_true (by omega)
          (try rw [show ((3 : Int)).toNat = 3 from rfl] at hx237_0)
          replace p237 := eq_true p237
          replace q237 := eq_true q237
          have p5 : 0 ≤ (0 : Int) := (by omega)
          have q5 : (0 : Int) < ((l0.length : Int) : Int) := of_decide_eq_true (by first | (with_reducible assumption) | assumption)
          have qi5 : (0 < l0.length) = True := eq_true (by omega)
          obtain ⟨go5, co5, eo5, gb5, gl5, cl5, HG5⟩ := Kd.R_form HO0.out (by omega)
          (first | cases eo5 | (injection eo5 with ea_ en_ ec_; (first | subst ea_ | (injection ea_ with ea_; subst ea_)); subst ec_; clear en_))
          have GB5 := Aside0.mk gb5
          have GG5 := Aside0.mk HG5
          clear gb5 gl5 HG5
          have HMgo5 := Aside0.mk (show (P0_ go5 ∨ w.heap.size ≤ go5) from (HO0.out.1 _ rfl))
          (first | simp only [add_plain] at hx237_0 | skip)
          obtain ⟨hx5_0, hf5_0⟩ := Kd.R_celln 0 HO0.out (0 : Int) p5 q5
          (try rw [show ((0 : Int)).toNat = 0 from rfl] at hx5_0)
          (try simp only [Nat.reduceMul, Nat.zero_mul, Nat.zero_add, Nat.reduceAdd] at hx5_0)
          (try rw [show ((0 : Int)).toNat = 0 from rfl] at hf5_0)
          (try simp only [Nat.reduceMul, Nat.zero_mul, Nat.zero_add, Nat.reduceAdd] at hf5_0)
          replace p5 := eq_true p5
          replace q5 := eq_true q5
          have HP12 := Kd.R_putg HO0.out (0 : Int) ((a1 / 16777216) % 256)
          go_enter Tryz.func87, Tryz.ntmps87
          go_wp2_with (first | ((with_reducible refine gate_store (t := 5) (p := 11) rfl ?_); refine store_event (t := 5) (p := 11) (v := ?vo_w13) (w1 := (w.setCell ⟨go5, (0 : Int).toNat, none⟩ (.int .u8 ((a1 / 16777216) % 256)))) ?hg ?ho ?hn ?hr ?_; (case ho => rfl); (case hg => rfl); (case hn => rfl); (case hr => first | (go_simp; done) | (go_simp; rfl)); intro w13 hw; have hg : w.grownBy w13 (some go5) := (by rw [hw]; exact HP12.2); have hp_ : Kd.R (Kd.int .u8) 5 w13 w0.heap.size (fun k_ => (P0_ k_ ∨ w.heap.size ≤ k_)) (.slice (some ⟨go5, 0, none⟩) l0.length co11) y238 := (by rw [hw, Ny238.out]; exact HP12.1); clear HP12; have n0_ := Aside0.mk (hp_); have n1_ := Aside0.mk ((by rw [hw]; exact below_set (HB.out) GB5.out : Below w0.heap.size w0 w13)); have n2_ := Aside0.mk (Kept.of_grown (S := (fun k_ => P0_ k_)) hg (by repeat (first | (with_reducible first | exact HK.out | apply Kept.alloc | apply Kept.drewN | apply Kept.drew) | exact HK.out)) (fun k_ e_ => (HO0.out.1 k_ e_))); clear HO0; clear HB; clear HK; have HO0 := n0_; have HB := n1_; have HK := n2_; clear n0_ n1_ n2_; clear hg hw hp_; have p7 : 0 ≤ (1 : Int) := (by omega); have q7 : (1 : Int) < ((l0.length : Int) : Int) := of_decide_eq_true (by first | (with_reducible assumption) | assumption); have qi7 : (1 < l0.length) = True := eq_true (by omega); obtain ⟨hx7_0, hf7_0⟩ := Kd.R_celln 0 HO0.out (1 : Int) p7 q7; (try rw [show ((1 : Int)).toNat = 1 from rfl] at hx7_0); (try simp only [Nat.reduceMul, Nat.zero_mul, Nat.zero_add, Nat.reduceAdd] at hx7_0); (try rw [show ((1 : Int)).toNat = 1 from rfl] at hf7_0); (try simp only [Nat.reduceMul, Nat.zero_mul, Nat.zero_add, Nat.reduceAdd] at hf7_0); replace p7 := eq_true p7; replace q7 := eq_true q7; obtain ⟨hy14_, hz14_⟩ := Kd.R_celln 0 HO0.out (1 : Int) (by omega) (of_decide_eq_true (by first | (with_reducible assumption) | assumption)); (try simp only [Int.reduceToNat, Int.toNat_zero, Int.toNat_ofNat, Nat.reduceMul, Nat.zero_mul, Nat.zero_add] at hy14_ hz14_); (try rw [show ((1 : Int)).toNat = 1 from rfl] at hy14_); (try rw [show ((1 : Int)).toNat = 1 from rfl] at hz14_); have HP14 := Kd.R_putg HO0.out (1 : Int) ((a1 / 65536) % 256)) | ((with_reducible refine gate_store (t := 5) (p := 16) rfl ?_); refine store_event (t := 5) (p := 16) (v := ?vo_w15) (w1 := (w13.setCell ⟨go5, (1 : Int).toNat, none⟩ (.int .u8 ((a1 / 65536) % 256)))) ?hg ?ho ?hn ?hr ?_; (case ho => rfl); (case hg => rfl); (case hn => rfl); (case hr => first | (go_simp; done) | (go_simp; rfl)); intro w15 hw; have hg : w13.grownBy w15 (some go5) := (by rw [hw]; exact HP14.2); have hp_ : Kd.R (Kd.int .u8) 5 w15 w0.heap.size (fun k_ => (P0_ k_ ∨ w.heap.size ≤ k_)) (.slice (some ⟨go5, 0, none⟩) l0.length co11) y239 := (by rw [hw, Ny239.out]; exact HP14.1); clear HP14; have n0_ := Aside0.mk (hp_); have n1_ := Aside0.mk ((by rw [hw]; exact below_set (HB.out) GB5.out : Below w0.heap.size w0 w15)); have n2_ := Aside0.mk (Kept.of_grown (S := (fun k_ => P0_ k_)) hg (by repeat (first | (with_reducible first | exact HK.out | apply Kept.alloc | apply Kept.drewN | apply Kept.drew) | exact HK.out)) (fun k_ e_ => (HO0.out.1 k_ e_))); clear HO0; clear HB; clear HK; have HO0 := n0_; have HB := n1_; have HK := n2_; clear n0_ n1_ n2_; clear hg hw hp_; have p9 : 0 ≤ (2 : Int) := (by omega); have q9 : (2 : Int) < ((l0.length : Int) : Int) := of_decide_eq_true (by first | (with_reducible assumption) | assumption); have qi9 : (2 < l0.length) = True := eq_true (by omega); obtain ⟨hx9_0, hf9_0⟩ := Kd.R_celln 0 HO0.out (2 : Int) p9 q9; (try rw [show ((2 : Int)).toNat = 2 from rfl] at hx9_0); (try simp only [Nat.reduceMul, Nat.zero_mul, Nat.zero_add, Nat.reduceAdd] at hx9_0); (try rw [show ((2 : Int)).toNat = 2 from rfl] at hf9_0); (try simp only [Nat.reduceMul, Nat.zero_mul, Nat.zero_add, Nat.reduceAdd] at hf9_0); replace p9 := eq_true p9; replace q9 := eq_true q9; obtain ⟨hy16_, hz16_⟩ := Kd.R_celln 0 HO0.out (2 : Int) (by omega) (of_decide_eq_true (by first | (with_reducible assumption) | assumption)); (try simp only [Int.reduceToNat, Int.toNat_zero, Int.toNat_ofNat, Nat.reduceMul, Nat.zero_mul, Nat.zero_add] at hy16_ hz16_); (try rw [show ((2 : Int)).toNat = 2 from rfl] at hy16_); (try rw [show ((2 : Int)).toNat = 2 from rfl] at hz16_); have HP16 := Kd.R_putg HO0.out (2 : Int) ((a1 / 256) % 256)) | ((with_reducible refine gate_store (t := 5) (p := 21) rfl ?_); refine store_event (t := 5) (p := 21) (v := ?vo_w17) (w1 := (w15.setCell ⟨go5, (2 : Int).toNat, none⟩ (.int .u8 ((a1 / 256) % 256)))) ?hg ?ho ?hn ?hr ?_; (case ho => rfl); (case hg => rfl); (case hn => rfl); (case hr => first | (go_simp; done) | (go_simp; rfl)); intro w17 hw; have hg : w15.grownBy w17 (some go5) := (by rw [hw]; exact HP16.2); have hp_ : Kd.R (Kd.int .u8) 5 w17 w0.heap.size (fun k_ => (P0_ k_ ∨ w.heap.size ≤ k_)) (.slice (some ⟨go5, 0, none⟩) l0.length co11) y240 := (by rw [hw, Ny240.out]; exact HP16.1); clear HP16; have n0_ := Aside0.mk (hp_); have n1_ := Aside0.mk ((by rw [hw]; exact below_set (HB.out) GB5.out : Below w0.heap.size w0 w17)); have n2_ := Aside0.mk (Kept.of_grown (S := (fun k_ => P0_ k_)) hg (by repeat (first | (with_reducible first | exact HK.out | apply Kept.alloc | apply Kept.drewN | apply Kept.drew) | exact HK.out)) (fun k_ e_ => (HO0.out.1 k_ e_))); clear HO0; clear HB; clear HK; have HO0 := n0_; have HB := n1_; have HK := n2_; clear n0_ n1_ n2_; clear hg hw hp_; have p10 : 0 ≤ (3 : Int) := (by omega); have q10 : (3 : Int) < ((l0.length : Int) : Int) := of_decide_eq_true (by first | (with_reducible assumption) | assumption); have qi10 : (3 < l0.length) = True := eq_true (by omega); obtain ⟨hx10_0, hf10_0⟩ := Kd.R_celln 0 HO0.out (3 : Int) p10 q10; (try rw [show ((3 : Int)).toNat = 3 from rfl] at hx10_0); (try simp only [Nat.reduceMul, Nat.zero_mul, Nat.zero_add, Nat.reduceAdd] at hx10_0); (try rw [show ((3 : Int)).toNat = 3 from rfl] at hf10_0); (try simp only [Nat.reduceMul, Nat.zero_mul, Nat.zero_add, Nat.reduceAdd] at hf10_0); replace p10 := eq_true p10; replace q10 := eq_true q10; obtain ⟨hy18_, hz18_⟩ := Kd.R_celln 0 HO0.out (3 : Int) (by omega) (of_decide_eq_true (by first | (with_reducible assumption) | assumption)); (try simp only [Int.reduceToNat, Int.toNat_zero, Int.toNat_ofNat, Nat.reduceMul, Nat.zero_mul, Nat.zero_add] at hy18_ hz18_); (try rw [show ((3 : Int)).toNat = 3 from rfl] at hy18_); (try rw [show ((3 : Int)).toNat = 3 from rfl] at hz18_); have HP18 := Kd.R_putg HO0.out (3 : Int) ((a1) % 256)) | ((with_reducible refine gate_store (t := 5) (p := 25) rfl ?_); refine store_event (t := 5) (p := 25) (v := ?vo_w19) (w1 := (w17.setCell ⟨go5, (3 : Int).toNat, none⟩ (.int .u8 ((a1) % 256)))) ?hg ?ho ?hn ?hr ?_; (case ho => rfl); (case hg => rfl); (case hn => rfl); (case hr => first | (go_simp; done) | (go_simp; rfl)); intro w19 hw; have hg : w17.grownBy w19 (some go5) := (by rw [hw]; exact HP18.2); have hp_ : Kd.R (Kd.int .u8) 5 w19 w0.heap.size (fun k_ => (P0_ k_ ∨ w.heap.size ≤ k_)) (.slice (some ⟨go5, 0, none⟩) l0.length co11) y241 := (by rw [hw, Ny241.out]; exact HP18.1); clear HP18; have n0_ := Aside0.mk (hp_); have n1_ := Aside0.mk ((by rw [hw]; exact below_set (HB.out) GB5.out : Below w0.heap.size w0 w19)); have n2_ := Aside0.mk (Kept.of_grown (S := (fun k_ => P0_ k_)) hg (by repeat (first | (with_reducible first | exact HK.out | apply Kept.alloc | apply Kept.drewN | apply Kept.drew) | exact HK.out)) (fun k_ e_ => (HO0.out.1 k_ e_))); clear HO0; clear HB; clear HK; have HO0 := n0_; have HB := n1_; have HK := n2_; clear n0_ n1_ n2_; clear hg hw hp_))
          first | go_end0 | ((try simp only [Exit.inBlock, Exit.then]); refine bodyPost_ret (results_none rfl _ _ _) rfl ?_)
          exact ⟨by first | rfl | (simp [errW_none, errW_some] <;> rfl) | (simp [*, errW_none, errW_some] <;> rfl), by (with_reducible repeat (first | apply Kd.R_alloc | apply Kd.R_drewN | apply Kd.R_drew)); exact HO0.out, by repeat (first | (with_reducible first | exact HB.out | apply below_alloc | apply pw_below_drewN | apply below_drew1) | exact HB.out), by repeat (first | (with_reducible first | exact HK.out | apply Kept.alloc | apply Kept.drewN | apply Kept.drew) | exact HK.out)⟩
        · rw [if_neg c8] at H
          exact absurd H (by simp)
      · rw [if_neg c6] at H
        exact absurd H (by simp)
    · rw [if_neg c4] at H
      exact absurd H (by simp)
  · rw [if_neg c3] at H
    exact absurd H (by simp)

-- NOT PRINTED: function 54 (netip_Addr_AsSlice)

/-! ### netcidr_isZeros: function 119 -/
def netcidr_isZeros.l0 : Nat → List Int → Int → Option (Bool)
  | 0, _, _ => none
  | k + 1, x0, x3 => if x3 < (x0.length : Int) then (if 0 ≤ x3 then (if (rd x0 x3) = 0 then (netcidr_isZeros.l0 k x0 (wrap64 (x3 + 1))) else (some false)) else (none)) else (some true)
def netcidr_isZeros.f (k : Nat) (l0 : List Int) : Option (Bool) := netcidr_isZeros.l0 k l0 0
theorem netcidr_isZeros.mono_l : ∀ k, (∀ y0 y1, LeO (netcidr_isZeros.l0 k y0 y1) (netcidr_isZeros.l0 (k + 1) y0 y1))
  | 0 => fun _ _ r h => by simp [netcidr_isZeros.l0] at h
  | k + 1 => by
    have ih0 := netcidr_isZeros.mono_l k
    · intro y0 y1
      unfold netcidr_isZeros.l0
      repeat' first
      | (with_reducible exact ih0 _ _)
      | (with_reducible exact LeO.refl _)
      | (with_reducible exact LeO.none _)
      | (with_reducible refine LeO.ite ?_ ?_)
      | (with_reducible refine LeO.bind ?_ (fun _ => ?_))
      | exact ih0 _ _
      | exact LeO.none _
      | refine LeO.ite ?_ ?_
      | refine LeO.bind ?_ (fun _ => ?_)
theorem netcidr_isZeros.mono : ∀ a0 k, LeO (netcidr_isZeros.f k a0) (netcidr_isZeros.f (k + 1) a0) := by
  intro a0 k
  have ih0 := netcidr_isZeros.mono_l k
  unfold netcidr_isZeros.f
  repeat' first
      | (with_reducible exact ih0 _ _)
      | (with_reducible exact LeO.refl _)
      | (with_reducible exact LeO.none _)
      | (with_reducible refine LeO.ite ?_ ?_)
      | (with_reducible refine LeO.bind ?_ (fun _ => ?_))
      | exact ih0 _ _
      | exact LeO.none _
      | refine LeO.ite ?_ ?_
      | refine LeO.bind ?_ (fun _ => ?_)
set_option maxHeartbeats 8000000 in
set_option maxRecDepth 100000 in
theorem netcidr_isZeros.calls (k : Nat) (A0 : Option Addr) (c0 : Nat) (l0 : List Int) (r : Bool) (w : World) (hr0 : Kd.C (Kd.int .u8) w A0 l0.length l0) (hc0 : l0.length ≤ c0) (h : netcidr_isZeros.f k l0 = some r) :
    Calls Tryz.prog 119 #[.slice A0 l0.length c0] w fun e w' => e = .returned (.bool r) ∧ Drawn0 w w' := by
  have HR0 := Aside0.mk hr0
  have HC0 := Aside0.mk hc0
  clear hr0 hc0
  have H : (netcidr_isZeros.l0 k l0 0) = some r := h
  clear h
  have H' := Aside0.mk H
  clear H
  go_enter Tryz.func119, Tryz.ntmps119
  go_wp2
  go_loopg [3] k (fun kq v3 w' => ∃ (x3_1 : Int), v3 = .int .i64 x3_1 ∧ Aside0 (netcidr_isZeros.l0 kq l0 x3_1 = some r) ∧ Aside0 (kq ≤ k) ∧ Drawn0 w w')
  case atStart => exact ⟨(0), (by first | rfl | (simp; done) | (simp [*]; done)), H', ⟨Nat.le_refl _⟩, by repeat (first | exact Drawn0.refl _ | apply Drawn0.step)⟩
  case round =>
    clear H'
    try clear c1
    obtain ⟨x3_1, rfl, HA, HK1, ⟨m1, rfl⟩⟩ := hrel
    cases gk with
    | zero => exact absurd HA.out (by simp [netcidr_isZeros.l0])
    | succ k1 =>
      have H := HA.out
      clear HA
      simp only [netcidr_isZeros.l0] at H
      by_cases c2 : x3_1 < (l0.length : Int)
      · rw [if_pos c2] at H
        have c2b0 : decide (x3_1 < (l0.length : Int)) = true := decide_eq_true c2
        clear c2
        by_cases c3 : 0 ≤ x3_1
        · rw [if_pos c3] at H
          have c3b0 : decide (0 ≤ x3_1) = true := decide_eq_true c3
          clear c3
          by_cases c4 : (rd l0 x3_1) = 0
          · rw [if_pos c4] at H
            have c4b0 : ((rd l0 x3_1) == 0) = true := beq_iff_eq.mpr c4
            have c4b1 : ((rd l0 x3_1) != 0) = false := bne_eq_false_iff_eq.mpr c4
            clear c4
            have H' := Aside0.mk H
            clear H
            have p242 : 0 ≤ (x3_1 : Int) := of_decide_eq_true (by first | (with_reducible assumption) | assumption)
            have q242 : x3_1 < (l0.length : Int) := of_decide_eq_true (by first | (with_reducible assumption) | assumption)
            obtain ⟨ad242, e242, hx242_0⟩ := Kd.at_int HR0.out x3_1 p242 q242
            cases e242
            replace p242 := eq_true p242
            replace q242 := eq_true q242
            go_wp2
            go_roundg k1
            case measure => have := HK1.out; omega
            case rel => exact ⟨(wrap64 (x3_1 + 1)), (by first | rfl | (simp; done) | (simp [*]; done)), H', ⟨by have := HK1.out; omega⟩, by repeat (first | exact Drawn0.refl _ | apply Drawn0.step)⟩
          · rw [if_neg c4] at H
            have c4b0 : ((rd l0 x3_1) == 0) = false := beq_eq_false_iff_ne.mpr c4
            have c4b1 : ((rd l0 x3_1) != 0) = true := bne_iff_ne.mpr c4
            obtain rfl := Option.some.inj H
            have p242 : 0 ≤ (x3_1 : Int) := of_decide_eq_true (by first | (with_reducible assumption) | assumption)
            have q242 : x3_1 < (l0.length : Int) := of_decide_eq_true (by first | (with_reducible assumption) | assumption)
            obtain ⟨ad242, e242, hx242_0⟩ := Kd.at_int HR0.out x3_1 p242 q242
            cases e242
            replace p242 := eq_true p242
            replace q242 := eq_true q242
            go_wp2
            go_ret
            exact ⟨by first | rfl | (simp; done) | (simp [*]; done), by repeat (first | exact Drawn0.refl _ | apply Drawn0.step)⟩
        · rw [if_neg c3] at H
          exact absurd H (by simp)
      · rw [if_neg c2] at H
        have c2b0 : decide (x3_1 < (l0.length : Int)) = false := decide_eq_false c2
        clear c2
        obtain rfl := Option.some.inj H
        go_wp2
        go_ret
        exact ⟨by first | rfl | (simp; done) | (simp [*]; done), by repeat (first | exact Drawn0.refl _ | apply Drawn0.step)⟩

-- NOT PRINTED: function 89 (netcidr_IP_To4)

/-! ### byteorder_BEUint64: function 142 -/
def byteorder_BEUint64.f (l0 : List Int) : Option (Int) := if 7 < (l0.length : Int) then (if 6 < (l0.length : Int) then (if 5 < (l0.length : Int) then (if 4 < (l0.length : Int) then (if 3 < (l0.length : Int) then (if 2 < (l0.length : Int) then (if 1 < (l0.length : Int) then (if 0 < (l0.length : Int) then (some (Go.bits .or .u64 (Go.bits .or .u64 (Go.bits .or .u64 (Go.bits .or .u64 (Go.bits .or .u64 (Go.bits .or .u64 (Go.bits .or .u64 (IntKind.u64.wrap (rd l0 7)) (IntKind.u64.wrap ((IntKind.u64.wrap (rd l0 6)) * 256))) (IntKind.u64.wrap ((IntKind.u64.wrap (rd l0 5)) * 65536))) (IntKind.u64.wrap ((IntKind.u64.wrap (rd l0 4)) * 16777216))) (IntKind.u64.wrap ((IntKind.u64.wrap (rd l0 3)) * 4294967296))) (IntKind.u64.wrap ((IntKind.u64.wrap (rd l0 2)) * 1099511627776))) (IntKind.u64.wrap ((IntKind.u64.wrap (rd l0 1)) * 281474976710656))) (IntKind.u64.wrap ((IntKind.u64.wrap (rd l0 0)) * 72057594037927936)))) else (none)) else (none)) else (none)) else (none)) else (none)) else (none)) else (none)) else (none)
set_option maxHeartbeats 8000000 in
set_option maxRecDepth 100000 in
theorem byteorder_BEUint64.calls (A0 : Option Addr) (c0 : Nat) (l0 : List Int) (r : Int) (w : World) (hr0 : Kd.C (Kd.int .u8) w A0 l0.length l0) (hc0 : l0.length ≤ c0) (h : byteorder_BEUint64.f l0 = some r) :
    Calls Tryz.prog 142 #[.slice A0 l0.length c0] w fun e w' => e = .returned (.int .u64 r) ∧ Drawn0 w w' := by
  have HR0 := Aside0.mk hr0
  have HC0 := Aside0.mk hc0
  clear hr0 hc0
  have H : (if 7 < (l0.length : Int) then (if 6 < (l0.length : Int) then (if 5 < (l0.length : Int) then (if 4 < (l0.length : Int) then (if 3 < (l0.length : Int) then (if 2 < (l0.length : Int) then (if 1 < (l0.length : Int) then (if 0 < (l0.length : Int) then (some (Go.bits .or .u64 (Go.bits .or .u64 (Go.bits .or .u64 (Go.bits .or .u64 (Go.bits .or .u64 (Go.bits .or .u64 (Go.bits .or .u64 (IntKind.u64.wrap (rd l0 7)) (IntKind.u64.wrap ((IntKind.u64.wrap (rd l0 6)) * 256))) (IntKind.u64.wrap ((IntKind.u64.wrap (rd l0 5)) * 65536))) (IntKind.u64.wrap ((IntKind.u64.wrap (rd l0 4)) * 16777216))) (IntKind.u64.wrap ((IntKind.u64.wrap (rd l0 3)) * 4294967296))) (IntKind.u64.wrap ((IntKind.u64.wrap (rd l0 2)) * 1099511627776))) (IntKind.u64.wrap ((IntKind.u64.wrap (rd l0 1)) * 281474976710656))) (IntKind.u64.wrap ((IntKind.u64.wrap (rd l0 0)) * 72057594037927936)))) else (none)) else (none)) else (none)) else (none)) else (none)) else (none)) else (none)) else (none)) = some r := h
  clear h
  by_cases c2 : 7 < (l0.length : Int)
  · rw [if_pos c2] at H
    have c2b0 : decide (7 < (l0.length : Int)) = true := decide_eq_true c2
    have c2b1 : decide (7 < l0.length) = true := decide_eq_true (by omega)
    clear c2
    by_cases c3 : 6 < (l0.length : Int)
    · rw [if_pos c3] at H
      have c3b0 : decide (6 < (l0.length : Int)) = true := decide_eq_true c3
      have c3b1 : decide (6 < l0.length) = true := decide_eq_true (by omega)
      clear c3
      by_cases c4 : 5 < (l0.length : Int)
      · rw [if_pos c4] at H
        have c4b0 : decide (5 < (l0.length : Int)) = true := decide_eq_true c4
        have c4b1 : decide (5 < l0.length) = true := decide_eq_true (by omega)
        clear c4
        by_cases c5 : 4 < (l0.length : Int)
        · rw [if_pos c5] at H
          have c5b0 : decide (4 < (l0.length : Int)) = true := decide_eq_true c5
          have c5b1 : decide (4 < l0.length) = true := decide_eq_true (by omega)
          clear c5
          by_cases c6 : 3 < (l0.length : Int)
          · rw [if_pos c6] at H
            have c6b0 : decide (3 < (l0.length : Int)) = true := decide_eq_true c6
            have c6b1 : decide (3 < l0.length) = true := decide_eq_true (by omega)
            clear c6
            by_cases c7 : 2 < (l0.length : Int)
            · rw [if_pos c7] at H
              have c7b0 : decide (2 < (l0.length : Int)) = true := decide_eq_true c7
              have c7b1 : decide (2 < l0.length) = true := decide_eq_true (by omega)
              clear c7
              by_cases c8 : 1 < (l0.length : Int)
              · rw [if_pos c8] at H
                have c8b0 : decide (1 < (l0.length : Int)) = true := decide_eq_true c8
                have c8b1 : decide (1 < l0.length) = true := decide_eq_true (by omega)
                clear c8
                by_cases c9 : 0 < (l0.length : Int)
                · rw [if_pos c9] at H
                  have c9b0 : decide (0 < (l0.length : Int)) = true := decide_eq_true c9
                  have c9b1 : decide (0 < l0.length) = true := decide_eq_true (by omega)
                  clear c9
                  obtain rfl := Option.some.inj H
                  have p163 : 0 ≤ (7 : Int) := (by omega)
                  have q163 : 7 < (l0.length : Int) := of_decide_eq_true (by first | (with_reducible assumption) | assumption)
                  obtain ⟨ad163, e163, hx163_0⟩ := Kd.at_int HR0.out 7 p163 q163
                  cases e163
                  (try simp only [show (7 : Int).toNat = 7 from rfl, Nat.reduceMul, Nat.reduceEqDiff, Go.Addr.add, ↓reduceIte] at hx163_0)
                  have qi163 : (7 < l0.length) = True := eq_true (by omega)
                  (try rw [show ((7 : Int)).toNat = 7 from rfl] at hx163_0)
                  replace p163 := eq_true p163
                  replace q163 := eq_true q163
                  have p164 : 0 ≤ (7 : Int) := (by omega)
                  have q164 : 7 < (l0.length : Int) := of_decide_eq_true (by first | (with_reducible assumption) | assumption)
                  obtain ⟨ad164, e164, hx164_0⟩ := Kd.at_int HR0.out 7 p164 q164
                  obtain rfl : ad163 = ad164 := (by injection e164)
                  (try simp only [show (7 : Int).toNat = 7 from rfl, Nat.reduceMul, Nat.reduceEqDiff, Go.Addr.add, ↓reduceIte] at hx164_0)
                  have qi164 : (7 < l0.length) = True := eq_true (by omega)
                  (try rw [show ((7 : Int)).toNat = 7 from rfl] at hx164_0)
                  replace p164 := eq_true p164
                  replace q164 := eq_true q164
                  have p165 : 0 ≤ (6 : Int) := (by omega)
                  have q165 : 6 < (l0.length : Int) := of_decide_eq_true (by first | (with_reducible assumption) | assumption)
                  obtain ⟨ad165, e165, hx165_0⟩ := Kd.at_int HR0.out 6 p165 q165
                  obtain rfl : ad163 = ad165 := (by injection e165)
                  (try simp only [show (6 : Int).toNat = 6 from rfl, Nat.reduceMul, Nat.reduceEqDiff, Go.Addr.add, ↓reduceIte] at hx165_0)
                  have qi165 : (6 < l0.length) = True := eq_true (by omega)
                  (try rw [show ((6 : Int)).toNat = 6 from rfl] at hx165_0)
                  replace p165 := eq_true p165
                  replace q165 := eq_true q165
                  have p166 : 0 ≤ (5 : Int) := (by omega)
                  have q166 : 5 < (l0.length : Int) := of_decide_eq_true (by first | (with_reducible assumption) | assumption)
                  obtain ⟨ad166, e166, hx166_0⟩ := Kd.at_int HR0.out 5 p166 q166
                  obtain rfl : ad163 = ad166 := (by injection e166)
                  (try simp only [show (5 : Int).toNat = 5 from rfl, Nat.reduceMul, Nat.reduceEqDiff, Go.Addr.add, ↓reduceIte] at hx166_0)
                  have qi166 : (5 < l0.length) = True := eq_true (by omega)
                  (try rw [show ((5 : Int)).toNat = 5 from rfl] at hx166_0)
                  replace p166 := eq_true p166
                  replace q166 := eq_true q166
                  have p167 : 0 ≤ (4 : Int) := (by omega)
                  have q167 : 4 < (l0.length : Int) := of_decide_eq_true (by first | (with_reducible assumption) | assumption)
                  obtain ⟨ad167, e167, hx167_0⟩ := Kd.at_int HR0.out 4 p167 q167
                  obtain rfl : ad163 = ad167 := (by injection e167)
                  (try simp only [show (4 : Int).toNat = 4 from rfl, Nat.reduceMul, Nat.reduceEqDiff, Go.Addr.add, ↓reduceIte] at hx167_0)
                  have qi167 : (4 < l0.length) = True := eq_true (by omega)
                  (try rw [show ((4 : Int)).toNat = 4 from rfl] at hx167_0)
                  replace p167 := eq_true p167
                  replace q167 := eq_true q167
                  have p168 : 0 ≤ (3 : Int) := (by omega)
                  have q168 : 3 < (l0.length : Int) := of_decide_eq_true (by first | (with_reducible assumption) | assumption)
                  obtain ⟨ad168, e168, hx168_0⟩ := Kd.at_int HR0.out 3 p168 q168
                  obtain rfl : ad163 = ad168 := (by injection e168)
                  (try simp only [show (3 : Int).toNat = 3 from rfl, Nat.reduceMul, Nat.reduceEqDiff, Go.Addr.add, ↓reduceIte] at hx168_0)
                  have qi168 : (3 < l0.length) = True := eq_true (by omega)
                  (try rw [show ((3 : Int)).toNat = 3 from rfl] at hx168_0)
                  replace p168 := eq_true p168
                  replace q168 := eq_true q168
                  have p169 : 0 ≤ (2 : Int) := (by omega)
                  have q169 : 2 < (l0.length : Int) := of_decide_eq_true (by first | (with_reducible assumption) | assumption)
                  obtain ⟨ad169, e169, hx169_0⟩ := Kd.at_int HR0.out 2 p169 q169
                  obtain rfl : ad163 = ad169 := (by injection e169)
                  (try simp only [show (2 : Int).toNat = 2 from rfl, Nat.reduceMul, Nat.reduceEqDiff, Go.Addr.add, ↓reduceIte] at hx169_0)
                  have qi169 : (2 < l0.length) = True := eq_true (by omega)
                  (try rw [show ((2 : Int)).toNat = 2 from rfl] at hx169_0)
                  replace p169 := eq_true p169
                  replace q169 := eq_true q169
                  have p170 : 0 ≤ (1 : Int) := (by omega)
                  have q170 : 1 < (l0.length : Int) := of_decide_eq_true (by first | (with_reducible assumption) | assumption)
                  obtain ⟨ad170, e170, hx170_0⟩ := Kd.at_int HR0.out 1 p170 q170
                  obtain rfl : ad163 = ad170 := (by injection e170)
                  (try simp only [show (1 : Int).toNat = 1 from rfl, Nat.reduceMul, Nat.reduceEqDiff, Go.Addr.add, ↓reduceIte] at hx170_0)
                  have qi170 : (1 < l0.length) = True := eq_true (by omega)
                  (try rw [show ((1 : Int)).toNat = 1 from rfl] at hx170_0)
                  replace p170 := eq_true p170
                  replace q170 := eq_true q170
                  have p171 : 0 ≤ (0 : Int) := (by omega)
                  have q171 : 0 < (l0.length : Int) := of_decide_eq_true (by first | (with_reducible assumption) | assumption)
                  obtain ⟨ad171, e171, hx171_0⟩ := Kd.at_int HR0.out 0 p171 q171
                  obtain rfl : ad163 = ad171 := (by injection e171)
                  have qi171 : (0 < l0.length) = True := eq_true (by omega)
                  (try rw [show ((0 : Int)).toNat = 0 from rfl] at hx171_0)
                  (try rw [Addr.add_zero'] at hx171_0)
                  replace p171 := eq_true p171
                  replace q171 := eq_true q171
                  go_enter Tryz.func142, Tryz.ntmps142
                  go_wp2
                  repeat (go_quiet (fail); try go_wp2)
                  go_ret
                  exact ⟨by first | rfl | (simp; done) | (simp [*]; done), by repeat (first | exact Drawn0.refl _ | apply Drawn0.step)⟩
                · rw [if_neg c9] at H
                  exact absurd H (by simp)
              · rw [if_neg c8] at H
                exact absurd H (by simp)
            · rw [if_neg c7] at H
              exact absurd H (by simp)
          · rw [if_neg c6] at H
            exact absurd H (by simp)
        · rw [if_neg c5] at H
          exact absurd H (by simp)
      · rw [if_neg c4] at H
        exact absurd H (by simp)
    · rw [if_neg c3] at H
      exact absurd H (by simp)
  · rw [if_neg c2] at H
    exact absurd H (by simp)

-- NOT PRINTED: function 118 (netip_AddrFrom16)

-- NOT PRINTED: function 86 (netip_parseIPv6)

-- NOT PRINTED: function 53 (netip_ParseAddr)

-- NOT PRINTED: function 120 (neturl_validOptionalPort)

-- NOT PRINTED: function 157 (netip_Addr_Is4)

-- NOT PRINTED: function 145 (neturl_parseHost)

-- NOT PRINTED: function 146 (neturl_validUserinfo)

end Go.Proofs.YtpemdpfageikfaaGreatDoor.Q
/-
  Contracts of laws.isPort and laws.hasStar.
  Written by the kit's print.sh for this seat, sections of it laid into this text by a small program (wip/tools/mkq2.py); namespace Q.
-/
namespace Go.Proofs.YtpemdpfageikfaaGreatDoor.Q
open Go.RowKit Go.Proofs.YtpemdpfageikfaaGreatDoorW.PrintWords Go.Proofs.YtpemdpfageikfaaGreatDoorW.PrintLast Go.Proofs.YtpemdpfageikfaaGreatDoorW.PrintMore
attribute [local go_sem] max2_int min2_int max_two min_two max_three min_three max_four min_four   -- for this text's walks alone
set_option linter.unusedVariables false
set_option linter.unusedSimpArgs false

/-! ### laws_isPort: function 16 -/
def laws_isPort.f (k : Nat) (a0 : ByteArray) : Option (Bool) := if (a0.size : Int) ≤ 20 then ((spec_IsASCII.f k a0).bind fun t272 => (if t272 = true then ((spec_Count.f k a0 58).bind fun t273 => ((spec_Count.f k a0 91).bind fun t274 => ((spec_Count.f k a0 93).bind fun t275 => (some ((wrap64 ((wrap64 (t273 + t274)) + t275)) == 0))))) else (some false))) else (some false)
theorem laws_isPort.mono : ∀ a0 k, LeO (laws_isPort.f k a0) (laws_isPort.f (k + 1) a0) := by
  intro a0 k
  unfold laws_isPort.f
  repeat' first
      | (with_reducible exact spec_Count.mono _ _ _)
      | (with_reducible exact spec_IsASCII.mono _ _)
      | (with_reducible exact LeO.refl _)
      | (with_reducible exact LeO.none _)
      | (with_reducible refine LeO.ite ?_ ?_)
      | (with_reducible refine LeO.bind ?_ (fun _ => ?_))
      | exact spec_Count.mono _ _ _
      | exact spec_IsASCII.mono _ _
      | exact LeO.none _
      | refine LeO.ite ?_ ?_
      | refine LeO.bind ?_ (fun _ => ?_)
set_option maxHeartbeats 8000000 in
set_option maxRecDepth 100000 in
theorem laws_isPort.calls (k : Nat) (a0 : ByteArray) (r : Bool) (w : World) (h : laws_isPort.f k a0 = some r) :
    Calls Tryz.prog 16 #[.string a0] w fun e w' => e = .returned (.bool r) ∧ Drawn0 w w' := by
  have H : (if (a0.size : Int) ≤ 20 then ((spec_IsASCII.f k a0).bind fun t272 => (if t272 = true then ((spec_Count.f k a0 58).bind fun t273 => ((spec_Count.f k a0 91).bind fun t274 => ((spec_Count.f k a0 93).bind fun t275 => (some ((wrap64 ((wrap64 (t273 + t274)) + t275)) == 0))))) else (some false))) else (some false)) = some r := h
  clear h
  by_cases c2 : (a0.size : Int) ≤ 20
  · rw [if_pos c2] at H
    have c2b0 : decide ((a0.size : Int) ≤ 20) = true := decide_eq_true c2
    have c2b1 : decide (a0.size ≤ 20) = true := decide_eq_true (by omega)
    clear c2
    replace H := Option.bind_eq_some_iff.mp H
    obtain ⟨t272, A30, H⟩ := H
    replace H : (if t272 = true then ((spec_Count.f k a0 58).bind fun t273 => ((spec_Count.f k a0 91).bind fun t274 => ((spec_Count.f k a0 93).bind fun t275 => (some ((wrap64 ((wrap64 (t273 + t274)) + t275)) == 0))))) else (some false)) = some r := H
    have A3 := Aside0.mk A30
    clear A30
    by_cases c4 : t272 = true
    · subst c4
      have H1 : ((spec_Count.f k a0 58).bind fun t273 => ((spec_Count.f k a0 91).bind fun t274 => ((spec_Count.f k a0 93).bind fun t275 => (some ((wrap64 ((wrap64 (t273 + t274)) + t275)) == 0))))) = some r := by rw [if_pos rfl] at H; exact H
      clear H
      have H := H1
      clear H1
      replace H := Option.bind_eq_some_iff.mp H
      obtain ⟨t273, A50, H⟩ := H
      replace H : ((spec_Count.f k a0 91).bind fun t274 => ((spec_Count.f k a0 93).bind fun t275 => (some ((wrap64 ((wrap64 (t273 + t274)) + t275)) == 0)))) = some r := H
      have A5 := Aside0.mk A50
      clear A50
      replace H := Option.bind_eq_some_iff.mp H
      obtain ⟨t274, A60, H⟩ := H
      replace H : ((spec_Count.f k a0 93).bind fun t275 => (some ((wrap64 ((wrap64 (t273 + t274)) + t275)) == 0))) = some r := H
      have A6 := Aside0.mk A60
      clear A60
      replace H := Option.bind_eq_some_iff.mp H
      obtain ⟨t275, A70, H⟩ := H
      replace H : (some ((wrap64 ((wrap64 (t273 + t274)) + t275)) == 0)) = some r := H
      have A7 := Aside0.mk A70
      clear A70
      obtain rfl := Option.some.inj H
      go_enter Tryz.func16, Tryz.ntmps16
      go_wp2_with (first | (go_at_call 9; (with_reducible refine (spec_IsASCII.calls k a0 true _ A3.out).mono ?_); rintro e w' ⟨rfl, ⟨nd, rfl⟩⟩) | (go_at_call 10; (with_reducible refine (spec_Count.calls k a0 58 t273 _ A5.out).mono ?_); rintro e w' ⟨rfl, ⟨nd, rfl⟩⟩) | (go_at_call 10; (with_reducible refine (spec_Count.calls k a0 91 t274 _ A6.out).mono ?_); rintro e w' ⟨rfl, ⟨nd, rfl⟩⟩) | (go_at_call 10; (with_reducible refine (spec_Count.calls k a0 93 t275 _ A7.out).mono ?_); rintro e w' ⟨rfl, ⟨nd, rfl⟩⟩))
      go_ret
      exact ⟨by first | rfl | (simp; done) | (simp [*]; done), by repeat (first | exact Drawn0.refl _ | apply Drawn0.step)⟩
    · replace c4 := Bool.eq_false_iff.mpr c4
      subst c4
      have H1 : (some false) = some r := by rw [if_neg (show ¬ (false = true) by decide)] at H; exact H
      clear H
      have H := H1
      clear H1
      obtain rfl := Option.some.inj H
      go_enter Tryz.func16, Tryz.ntmps16
      go_wp2_with (first | (go_at_call 9; (with_reducible refine (spec_IsASCII.calls k a0 false _ A3.out).mono ?_); rintro e w' ⟨rfl, ⟨nd, rfl⟩⟩))
      go_ret
      exact ⟨by first | rfl | (simp; done) | (simp [*]; done), by repeat (first | exact Drawn0.refl _ | apply Drawn0.step)⟩
  · rw [if_neg c2] at H
    have c2b0 : decide ((a0.size : Int) ≤ 20) = false := decide_eq_false c2
    have c2b1 : decide (a0.size ≤ 20) = false := decide_eq_false (by omega)
    clear c2
    obtain rfl := Option.some.inj H
    go_enter Tryz.func16, Tryz.ntmps16
    go_wp2
    go_ret
    exact ⟨by first | rfl | (simp; done) | (simp [*]; done), by repeat (first | exact Drawn0.refl _ | apply Drawn0.step)⟩

/-! ### laws_hasStar: function 18 -/
def laws_hasStar.l0 : Nat → List ByteArray → Int → Int → Option (Bool)
  | 0, _, _, _ => none
  | k + 1, x6, x7, x8 => if x8 < x7 then (if 0 ≤ x8 then (if x8 < (x6.length : Int) then ((spec_Trimmed.f k (rdOf ByteArray.empty x6 x8)).bind fun t282 => (if t282.toList = ([42] : List UInt8) then (some true) else (laws_hasStar.l0 k x6 x7 (wrap64 (x8 + 1))))) else (none)) else (none)) else (some false)
def laws_hasStar.f (k : Nat) (a0 : ByteArray) : Option (Bool) := (spec_Split.f k a0 44).bind fun t278 => (laws_hasStar.l0 k t278 (t278.length : Int) 0)
theorem laws_hasStar.mono_l : ∀ k, (∀ y0 y1 y2, LeO (laws_hasStar.l0 k y0 y1 y2) (laws_hasStar.l0 (k + 1) y0 y1 y2))
  | 0 => fun _ _ _ r h => by simp [laws_hasStar.l0] at h
  | k + 1 => by
    have ih0 := laws_hasStar.mono_l k
    · intro y0 y1 y2
      unfold laws_hasStar.l0
      repeat' first
      | (with_reducible exact ih0 _ _ _)
      | (with_reducible exact spec_Split.mono _ _ _)
      | (with_reducible exact spec_Trimmed.mono _ _)
      | (with_reducible exact LeO.refl _)
      | (with_reducible exact LeO.none _)
      | (with_reducible refine LeO.ite ?_ ?_)
      | (with_reducible refine LeO.bind ?_ (fun _ => ?_))
      | exact ih0 _ _ _
      | exact spec_Split.mono _ _ _
      | exact spec_Trimmed.mono _ _
      | exact LeO.none _
      | refine LeO.ite ?_ ?_
      | refine LeO.bind ?_ (fun _ => ?_)
theorem laws_hasStar.mono : ∀ a0 k, LeO (laws_hasStar.f k a0) (laws_hasStar.f (k + 1) a0) := by
  intro a0 k
  have ih0 := laws_hasStar.mono_l k
  unfold laws_hasStar.f
  repeat' first
      | (with_reducible exact ih0 _ _ _)
      | (with_reducible exact spec_Split.mono _ _ _)
      | (with_reducible exact spec_Trimmed.mono _ _)
      | (with_reducible exact LeO.refl _)
      | (with_reducible exact LeO.none _)
      | (with_reducible refine LeO.ite ?_ ?_)
      | (with_reducible refine LeO.bind ?_ (fun _ => ?_))
      | exact ih0 _ _ _
      | exact spec_Split.mono _ _ _
      | exact spec_Trimmed.mono _ _
      | exact LeO.none _
      | refine LeO.ite ?_ ?_
      | refine LeO.bind ?_ (fun _ => ?_)
set_option maxHeartbeats 8000000 in
set_option maxRecDepth 100000 in
theorem laws_hasStar.calls (k : Nat) (a0 : ByteArray) (r : Bool) (w : World) (h : laws_hasStar.f k a0 = some r) :
    Calls Tryz.prog 18 #[.string a0] w fun e w' => e = .returned (.bool r) ∧ Below w.heap.size w w' := by
  have HB := Aside0.mk (Below.refl w.heap.size w)
  have H : ((spec_Split.f k a0 44).bind fun t278 => (laws_hasStar.l0 k t278 (t278.length : Int) 0)) = some r := h
  clear h
  replace H := Option.bind_eq_some_iff.mp H
  obtain ⟨t278, A20, H⟩ := H
  replace H : (laws_hasStar.l0 k t278 (t278.length : Int) 0) = some r := H
  have A2 := Aside0.mk A20
  clear A20
  have H' := Aside0.mk H
  clear H
  go_enter Tryz.func18, Tryz.ntmps18
  go_wp2_with (first | ((with_reducible refine gate_callee (f := 24) rfl ?_); refine goesL_ (some 6) rfl rfl Tryz.func24 (by kernel_rfl) rfl #[.string a0, .int .u8 44] rfl (by (try simp only [List.map_toArray, List.map_cons, List.map_nil]); first | done | rfl | (simp only [List.length_drop, List.length_take]; rfl)) ?_; (with_reducible refine (spec_Split.calls k a0 44 t278 _ A2.out).mono ?_); rintro e w3 ⟨v279, rfl, ho0, hb⟩; refine ⟨_, rfl, ?_⟩; have n0_ := Aside0.mk (Kd.R_lower ho0 (below_size (by repeat (first | (with_reducible first | exact HB.out | apply below_alloc | apply pw_below_drewN | apply below_drew1) | exact HB.out)))); have n1_ := Aside0.mk (below_step (by repeat (first | (with_reducible first | exact HB.out | apply below_alloc | apply pw_below_drewN | apply below_drew1) | exact HB.out)) hb); clear HB; have HO280 := n0_; have HB := n1_; clear n0_ n1_; (try clear hb); (try clear hb2); (try clear hk); (try clear hi); (try clear ho0); obtain ⟨Ao4, co4, eo4⟩ := Kd.R_slice HO280.out; subst eo4))
  go_loopg [8] k (fun kq v8 w' => ∃ (x8_1 : Int), v8 = .int .i64 x8_1 ∧ Aside0 (laws_hasStar.l0 kq t278 (t278.length : Int) x8_1 = some r) ∧ Aside0 (kq ≤ k) ∧ Aside0 (Kd.R Kd.string 9 w' w.heap.size (fun _ => True) (.slice Ao4 t278.length co4) t278) ∧ Aside0 (Below w.heap.size w w'))
  case atStart => exact ⟨(0), (by first | rfl | (simp; done) | (simp [*]; done)), H', ⟨Nat.le_refl _⟩, ⟨by (with_reducible repeat (first | apply Kd.R_alloc | apply Kd.R_drewN | apply Kd.R_drew)); exact HO280.out⟩, ⟨by repeat (first | (with_reducible first | exact HB.out | apply below_alloc | apply pw_below_drewN | apply below_drew1) | exact HB.out)⟩⟩
  case round =>
    clear H'
    try clear c1
    try clear c2
    try clear p2
    obtain ⟨x8_1, rfl, HA, HK1, HO_6, HB⟩ := hrel
    cases gk with
    | zero => exact absurd HA.out (by simp [laws_hasStar.l0])
    | succ k1 =>
      have H := HA.out
      clear HA
      simp only [laws_hasStar.l0] at H
      by_cases c5 : x8_1 < (t278.length : Int)
      · rw [if_pos c5] at H
        have c5b0 : decide (x8_1 < (t278.length : Int)) = true := decide_eq_true c5
        clear c5
        by_cases c6 : 0 ≤ x8_1
        · rw [if_pos c6] at H
          have c6b0 : decide (0 ≤ x8_1) = true := decide_eq_true c6
          clear c6
          by_cases c7 : x8_1 < (t278.length : Int)
          · rw [if_pos c7] at H
            have c7b0 : decide (x8_1 < (t278.length : Int)) = true := decide_eq_true c7
            clear c7
            replace H := Option.bind_eq_some_iff.mp H
            obtain ⟨t282, A80, H⟩ := H
            replace H : (if t282.toList = ([42] : List UInt8) then (some true) else (laws_hasStar.l0 k1 t278 (t278.length : Int) (wrap64 (x8_1 + 1)))) = some r := H
            have A8 := Aside0.mk A80
            clear A80
            by_cases c9 : t282.toList = ([42] : List UInt8)
            · rw [if_pos c9] at H
              have c9b0 : (t282.toList == ([42] : List UInt8)) = true := beq_iff_eq.mpr c9
              have c9b1 : (t282.toList != ([42] : List UInt8)) = false := bne_eq_false_iff_eq.mpr c9
              clear c9
              obtain rfl := Option.some.inj H
              have p281 : 0 ≤ (x8_1 : Int) := of_decide_eq_true (by first | (with_reducible assumption) | assumption)
              have q281 : x8_1 < (t278.length : Int) := of_decide_eq_true (by first | (with_reducible assumption) | assumption)
              obtain ⟨ad281, e281, hx281_0⟩ := Kd.at_string (Kd.R_reads' HO_6.out).2.2 x8_1 p281 q281
              cases e281
              replace p281 := eq_true p281
              replace q281 := eq_true q281
              go_wp2_with (first | ((with_reducible refine gate_callee (f := 28) rfl ?_); refine goesL_ (some 13) rfl rfl Tryz.func28 (by kernel_rfl) rfl #[.string (rdOf ByteArray.empty t278 x8_1)] rfl (by (try simp only [List.map_toArray, List.map_cons, List.map_nil]); first | done | rfl | (simp only [List.length_drop, List.length_take]; rfl)) ?_; (with_reducible refine (spec_Trimmed.calls k1 (rdOf ByteArray.empty t278 x8_1) t282 _ A8.out).mono ?_); rintro e w' ⟨rfl, ⟨nd, rfl⟩⟩; refine ⟨_, rfl, ?_⟩))
              go_ret
              exact ⟨by first | rfl | (simp [errW_none, errW_some] <;> rfl) | (simp [*, errW_none, errW_some] <;> rfl), by repeat (first | (with_reducible first | exact HB.out | apply below_alloc | apply pw_below_drewN | apply below_drew1) | exact HB.out)⟩
            · rw [if_neg c9] at H
              have c9b0 : (t282.toList == ([42] : List UInt8)) = false := beq_eq_false_iff_ne.mpr c9
              have c9b1 : (t282.toList != ([42] : List UInt8)) = true := bne_iff_ne.mpr c9
              have H' := Aside0.mk H
              clear H
              have p281 : 0 ≤ (x8_1 : Int) := of_decide_eq_true (by first | (with_reducible assumption) | assumption)
              have q281 : x8_1 < (t278.length : Int) := of_decide_eq_true (by first | (with_reducible assumption) | assumption)
              obtain ⟨ad281, e281, hx281_0⟩ := Kd.at_string (Kd.R_reads' HO_6.out).2.2 x8_1 p281 q281
              cases e281
              replace p281 := eq_true p281
              replace q281 := eq_true q281
              go_wp2_with (first | ((with_reducible refine gate_callee (f := 28) rfl ?_); refine goesL_ (some 13) rfl rfl Tryz.func28 (by kernel_rfl) rfl #[.string (rdOf ByteArray.empty t278 x8_1)] rfl (by (try simp only [List.map_toArray, List.map_cons, List.map_nil]); first | done | rfl | (simp only [List.length_drop, List.length_take]; rfl)) ?_; (with_reducible refine (spec_Trimmed.calls k1 (rdOf ByteArray.empty t278 x8_1) t282 _ A8.out).mono ?_); rintro e w' ⟨rfl, ⟨nd, rfl⟩⟩; refine ⟨_, rfl, ?_⟩))
              go_roundg k1
              case measure => have := HK1.out; omega
              case rel => exact ⟨(wrap64 (x8_1 + 1)), (by first | rfl | (simp; done) | (simp [*]; done)), H', ⟨by have := HK1.out; omega⟩, ⟨by (with_reducible repeat (first | apply Kd.R_alloc | apply Kd.R_drewN | apply Kd.R_drew)); exact HO_6.out⟩, ⟨by repeat (first | (with_reducible first | exact HB.out | apply below_alloc | apply pw_below_drewN | apply below_drew1) | exact HB.out)⟩⟩
          · rw [if_neg c7] at H
            exact absurd H (by simp)
        · rw [if_neg c6] at H
          exact absurd H (by simp)
      · rw [if_neg c5] at H
        have c5b0 : decide (x8_1 < (t278.length : Int)) = false := decide_eq_false c5
        clear c5
        obtain rfl := Option.some.inj H
        go_wp2
        go_ret
        exact ⟨by first | rfl | (simp [errW_none, errW_some] <;> rfl) | (simp [*, errW_none, errW_some] <;> rfl), by repeat (first | (with_reducible first | exact HB.out | apply below_alloc | apply pw_below_drewN | apply below_drew1) | exact HB.out)⟩

-- NOT PRINTED: function 31 (spec_hex)

-- NOT PRINTED: function 19 (spec_SixText)

-- NOT PRINTED: function 20 (spec_SixAddr)

-- NOT PRINTED: function 5 (laws_FnUseSix)

end Go.Proofs.YtpemdpfageikfaaGreatDoor.Q
