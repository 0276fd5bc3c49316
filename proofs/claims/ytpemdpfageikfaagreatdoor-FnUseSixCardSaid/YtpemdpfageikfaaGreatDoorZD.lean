/- CIDRMask, Contains, the rules' match; a block of bytes put anew. -/
import Derived.Test.YtpemdpfageikfaaGreatDoorZC
import Derived.Test.YtpemdpfageikfaaGreatDoorZA
set_option linter.unusedVariables false
set_option linter.unusedSimpArgs false
/-
  CIDRMask: the bytes of a mask.
-/
namespace Go.Proofs.YtpemdpfageikfaaGreatDoor.R
open Go.RowKit Go.Proofs.YtpemdpfageikfaaGreatDoorW.PrintWords Go.Proofs.YtpemdpfageikfaaGreatDoorW.PrintLast Go.Proofs.YtpemdpfageikfaaGreatDoorW.PrintMore

theorem heap_setCell_same {w : World} {b k : Nat} {cs : Array Value} {T : TypeId} {fr : Nat × Nat} (h : w.heap[b]? = some (.cells cs T fr)) (v : Value) : (w.setCell ⟨b, k, none⟩ v).heap[b]? = some (.cells (cs.setIfInBounds k v) T fr) := by
  simp [World.setCell, Array.getElem?_modify, h]
/-- How many ones are left behind k bytes. -/
def onesLeft (n : Nat) (k : Nat) : Nat := n - 8 * k
/-- A byte of the mask. -/
def maskByte (n : Nat) (k : Nat) : Int := if 8 ≤ onesLeft n k then 255 else 255 - 255 / 2 ^ onesLeft n k
def maskUpTo (n L k : Nat) : List Int := (List.range L).map fun i => if i < k then maskByte n i else 0
theorem mk4 (W : World) : (Instr.makeSlice 132 (.int .i64 4) (.int .i64 4)).run Tryz.prog W = .ok (.slice (some ⟨W.heap.size, 0, none⟩) 4 4) (W.alloc (.cells #[.int .u8 0, .int .u8 0, .int .u8 0, .int .u8 0] 5)) := by kernel_rfl
theorem mk16 (W : World) : (Instr.makeSlice 132 (.int .i64 16) (.int .i64 16)).run Tryz.prog W = .ok (.slice (some ⟨W.heap.size, 0, none⟩) 16 16) (W.alloc (.cells #[.int .u8 0, .int .u8 0, .int .u8 0, .int .u8 0, .int .u8 0, .int .u8 0, .int .u8 0, .int .u8 0, .int .u8 0, .int .u8 0, .int .u8 0, .int .u8 0, .int .u8 0, .int .u8 0, .int .u8 0, .int .u8 0] 5)) := by kernel_rfl

theorem mask_set (n L k : Nat) (hk : k < L) : (nums .u8 (maskUpTo n L k)).toArray.setIfInBounds k (.int .u8 (maskByte n k)) = (nums .u8 (maskUpTo n L (k + 1))).toArray := by
  rw [List.setIfInBounds_toArray]
  congr 1
  apply List.ext_getElem?
  intro j
  rw [List.getElem?_set]
  simp only [nums, maskUpTo, List.length_map, List.length_range, List.getElem?_map, List.getElem?_range]
  by_cases e : k = j
  · subst e
    simp [hk]
  · rw [if_neg e]
    by_cases hj : j < L
    · simp only [List.getElem?_range, hj, Option.map_some]
      by_cases h1 : j < k
      · simp [h1, show j < k + 1 from by omega]
      · simp [h1, show ¬ j < k + 1 from by omega]
    · simp [hj]
theorem xorMask : ∀ m, m < 8 → bits BinOp.xor IntKind.u8 (if IntKind.u8.signed = true then -1 else IntKind.u8.max) (255 / 2 ^ m) = 255 - 255 / 2 ^ m
  | 0, _ | 1, _ | 2, _ | 3, _ | 4, _ | 5, _ | 6, _ | 7, _ => by decide
  | m + 8, h => absurd h (by omega)

set_option maxHeartbeats 1000000 in
theorem cidrMask_4 (n : Nat) (hn : n ≤ 32) (w : World) :
    Calls Tryz.prog 76 #[.int .i64 n, .int .i64 32] w fun e w' => ∃ b, w.heap.size ≤ b ∧ e = .returned (.slice (some ⟨b, 0, none⟩) 4 4) ∧ w'.heap[b]? = some (.cells (nums .u8 (maskUpTo n 4 4)).toArray 5 (0, 0)) ∧ Below w.heap.size w w' := by
  have hmk := mk4
  have hn0 : (0 : Int) ≤ (n : Int) := by omega
  have hn1 : (n : Int) ≤ 32 := by omega
  go_enter Tryz.func76, Tryz.ntmps76
  go_wp2
  go_loopw [7, 8] (fun v7 v8 wr => ∃ k : Nat, k ≤ 4 ∧ v7 = .int .u64 (onesLeft n k : Nat) ∧ v8 = .int .i64 k ∧ wr.heap[w.heap.size]? = some (.cells (nums .u8 (maskUpTo n 4 k)).toArray 5 (0, 0)) ∧ Below w.heap.size w wr) (fun _ i _ => 4 - (intOf i).toNat)
  case atStart => exact ⟨0, by omega, by simp [onesLeft], rfl, by rw [heap_new]; rfl, by go_grown⟩
  case round =>
    obtain ⟨k, hk, rfl, rfl, hh, hb⟩ := hrel
    have hB := Lib.hid hb
    have hH := Lib.hid hh
    have cell : k < 4 → wr.cell? ⟨w.heap.size, k, none⟩ = some (.int .u8 0) := fun hlt => by
      have e : (maskUpTo n 4 k)[k]? = some 0 := by simp [maskUpTo, hlt]
      simp [World.cell?, hh, nums, e]
    have froz : wr.frozen? ⟨w.heap.size, k, none⟩ = false := by simp [World.frozen?, hh]
    clear hh hb
    by_cases hlt : k < 4
    · replace cell := cell hlt
      by_cases h8 : 8 ≤ onesLeft n k
      · have hm : maskByte n k = 255 := by simp [maskByte, h8]
        have HM := Lib.hid hm
        have ho : onesLeft n (k + 1) = onesLeft n k - 8 := by unfold onesLeft; omega
        have HO := Lib.hid ho
        clear hm ho
        go_wp2
        refine ⟨⟨k + 1, by omega, ?_, by go_num, ?_, hB.out.setCell (Nat.le_refl _) _⟩, by simp [intOf]; omega⟩
        · have : onesLeft n k < 18446744073709551616 := by unfold onesLeft; omega
          rw [HO.out, show IntKind.u64.wrap (((onesLeft n k : Nat) : Int) - 8) = ((onesLeft n k - 8 : Nat) : Int) from by rw [IntKind.wrap_u64]; omega]
        · rw [heap_setCell_same hH.out, ← HM.out, mask_set n 4 k hlt]
      · have hm : maskByte n k = 255 - 255 / 2 ^ onesLeft n k := by simp [maskByte, h8]
        have HM := Lib.hid hm
        have ho : onesLeft n (k + 1) = 0 := by unfold onesLeft at h8 ⊢; omega
        have HO := Lib.hid ho
        clear hm ho
        go_wp2
        refine ⟨⟨k + 1, by omega, ?_, by go_num, ?_, hB.out.setCell (Nat.le_refl _) _⟩, by simp [intOf]; omega⟩
        · rw [HO.out]; rfl
        · rw [heap_setCell_same hH.out, xorMask _ (by omega), ← HM.out, mask_set n 4 k hlt]
    · obtain rfl : k = 4 := by omega
      clear cell
      go_wp2
      go_ret
      exact ⟨w.heap.size, Nat.le_refl _, rfl, hH.out, hB.out⟩
set_option maxHeartbeats 1000000 in
theorem cidrMask_16 (n : Nat) (hn : n ≤ 128) (w : World) :
    Calls Tryz.prog 76 #[.int .i64 n, .int .i64 128] w fun e w' => ∃ b, w.heap.size ≤ b ∧ e = .returned (.slice (some ⟨b, 0, none⟩) 16 16) ∧ w'.heap[b]? = some (.cells (nums .u8 (maskUpTo n 16 16)).toArray 5 (0, 0)) ∧ Below w.heap.size w w' := by
  have hmk := mk16
  have hn0 : (0 : Int) ≤ (n : Int) := by omega
  have hn1 : (n : Int) ≤ 128 := by omega
  go_enter Tryz.func76, Tryz.ntmps76
  go_wp2
  go_loopw [7, 8] (fun v7 v8 wr => ∃ k : Nat, k ≤ 16 ∧ v7 = .int .u64 (onesLeft n k : Nat) ∧ v8 = .int .i64 k ∧ wr.heap[w.heap.size]? = some (.cells (nums .u8 (maskUpTo n 16 k)).toArray 5 (0, 0)) ∧ Below w.heap.size w wr) (fun _ i _ => 16 - (intOf i).toNat)
  case atStart => exact ⟨0, by omega, by simp [onesLeft], rfl, by rw [heap_new]; rfl, by go_grown⟩
  case round =>
    obtain ⟨k, hk, rfl, rfl, hh, hb⟩ := hrel
    have hB := Lib.hid hb
    have hH := Lib.hid hh
    have cell : k < 16 → wr.cell? ⟨w.heap.size, k, none⟩ = some (.int .u8 0) := fun hlt => by
      have e : (maskUpTo n 16 k)[k]? = some 0 := by simp [maskUpTo, hlt]
      simp [World.cell?, hh, nums, e]
    have froz : wr.frozen? ⟨w.heap.size, k, none⟩ = false := by simp [World.frozen?, hh]
    clear hh hb
    by_cases hlt : k < 16
    · replace cell := cell hlt
      by_cases h8 : 8 ≤ onesLeft n k
      · have hm : maskByte n k = 255 := by simp [maskByte, h8]
        have HM := Lib.hid hm
        have ho : onesLeft n (k + 1) = onesLeft n k - 8 := by unfold onesLeft; omega
        have HO := Lib.hid ho
        clear hm ho
        go_wp2
        refine ⟨⟨k + 1, by omega, ?_, by go_num, ?_, hB.out.setCell (Nat.le_refl _) _⟩, by simp [intOf]; omega⟩
        · have : onesLeft n k < 18446744073709551616 := by unfold onesLeft; omega
          rw [HO.out, show IntKind.u64.wrap (((onesLeft n k : Nat) : Int) - 8) = ((onesLeft n k - 8 : Nat) : Int) from by rw [IntKind.wrap_u64]; omega]
        · rw [heap_setCell_same hH.out, ← HM.out, mask_set n 16 k hlt]
      · have hm : maskByte n k = 255 - 255 / 2 ^ onesLeft n k := by simp [maskByte, h8]
        have HM := Lib.hid hm
        have ho : onesLeft n (k + 1) = 0 := by unfold onesLeft at h8 ⊢; omega
        have HO := Lib.hid ho
        clear hm ho
        go_wp2
        refine ⟨⟨k + 1, by omega, ?_, by go_num, ?_, hB.out.setCell (Nat.le_refl _) _⟩, by simp [intOf]; omega⟩
        · rw [HO.out]; rfl
        · rw [heap_setCell_same hH.out, xorMask _ (by omega), ← HM.out, mask_set n 16 k hlt]
    · obtain rfl : k = 16 := by omega
      clear cell
      go_wp2
      go_ret
      exact ⟨w.heap.size, Nat.le_refl _, rfl, hH.out, hB.out⟩
end Go.Proofs.YtpemdpfageikfaaGreatDoor.R
/-
  IPNet.Contains: the bytes of an address, masked, against the masked bytes of the network.
-/
namespace Go.Proofs.YtpemdpfageikfaaGreatDoor.R
open Go.RowKit Go.Proofs.YtpemdpfageikfaaGreatDoorW.PrintWords Go.Proofs.YtpemdpfageikfaaGreatDoorW.PrintLast Go.Proofs.YtpemdpfageikfaaGreatDoorW.PrintMore

theorem eql_nil80 (A : Option Addr) (n c : Nat) (W : World) : (binOp .eql 80 (.slice A n c) (.slice none 0 0)).run Tryz.prog W = .ok (.bool A.isNone) W := Lib.run_eql_slice_nil W 80 5 A n c 0 0 Tryz.underlying80
theorem ret_bool {a b : Bool} (h : a = b) : Ending.returned (.bool a) = .returned (.bool b) := by rw [h]
theorem nnm_4 (g b o c d q f : Nat) (w : World) (k0 : w.cell? ⟨g, 0, none⟩ = some (.slice (some ⟨b, o, none⟩) 4 c)) (k1 : w.cell? ⟨g, 1, none⟩ = some (.slice (some ⟨d, q, none⟩) 4 f)) :
    Calls Tryz.prog 181 #[.pointer (some ⟨g, 0, none⟩)] w fun e w' => e = .returned (.tuple #[.slice (some ⟨b, o, none⟩) 4 c, .slice (some ⟨d, q, none⟩) 4 f]) ∧ w = w' := by
  have qn := eql_nil80
  go_enter Tryz.func181, Tryz.ntmps181
  go_wp2_with (go_at_call 89; refine (to4_4 _ _ _).mono ?_; rintro e w1 ⟨rfl, rfl⟩)
  go_ret2
  exact ⟨rfl, rfl⟩
theorem nnm_16 (g b o c d q f : Nat) (l : List Int) (w : World) (k0 : w.cell? ⟨g, 0, none⟩ = some (.slice (some ⟨b, o, none⟩) 16 c)) (k1 : w.cell? ⟨g, 1, none⟩ = some (.slice (some ⟨d, q, none⟩) 16 f))
    (hr : Kd.C (Kd.int .u8) w (some ⟨b, o, none⟩) 16 l) (hc : 16 ≤ c) (h4 : is4in6 l = false) :
    Calls Tryz.prog 181 #[.pointer (some ⟨g, 0, none⟩)] w fun e w' => e = .returned (.tuple #[.slice (some ⟨b, o, none⟩) 16 c, .slice (some ⟨d, q, none⟩) 16 f]) ∧ ∃ m, w.drewN m = w' := by
  have qn := eql_nil80
  have ht := Lib.hid (to4_16 b o c l w hr hc)
  rw [h4] at ht
  clear hr h4
  go_enter Tryz.func181, Tryz.ntmps181
  go_wp2_with (go_at_call 89; refine ht.out.mono ?_; rintro e w1 ⟨rfl, m, rfl⟩; simp only [cond_false])
  go_ret2
  exact ⟨rfl, m, rfl⟩
/-- Do the masked bytes agree? -/
def sameMasked (L : Nat) (xs ms ys : List Int) : Bool := (List.range L).all fun j => bits .and .u8 (xs.getD j 0) (ms.getD j 0) == bits .and .u8 (ys.getD j 0) (ms.getD j 0)
theorem sameMasked_succ (L : Nat) (xs ms ys : List Int) : sameMasked (L + 1) xs ms ys = (sameMasked L xs ms ys && bits .and .u8 (xs.getD L 0) (ms.getD L 0) == bits .and .u8 (ys.getD L 0) (ms.getD L 0)) := by
  simp [sameMasked, List.range_succ]
theorem sameMasked_no {L k : Nat} {xs ms ys : List Int} (hk : k < L) (h : (bits .and .u8 (xs.getD k 0) (ms.getD k 0) == bits .and .u8 (ys.getD k 0) (ms.getD k 0)) = false) : sameMasked L xs ms ys = false := by
  unfold sameMasked
  rw [Bool.eq_false_iff]
  intro he
  rw [List.all_eq_true] at he
  rw [he k (by simp [hk])] at h
  cases h

set_option maxHeartbeats 2000000 in
theorem contains_4 (g b o c d q f s u t : Nat) (xs ms ys : List Int) (w : World) (k0 : w.cell? ⟨g, 0, none⟩ = some (.slice (some ⟨b, o, none⟩) 4 c)) (k1 : w.cell? ⟨g, 1, none⟩ = some (.slice (some ⟨d, q, none⟩) 4 f))
    (hx : Kd.C (Kd.int .u8) w (some ⟨b, o, none⟩) 4 xs) (hm : Kd.C (Kd.int .u8) w (some ⟨d, q, none⟩) 4 ms) (hy : Kd.C (Kd.int .u8) w (some ⟨s, u, none⟩) 4 ys) (hc : 4 ≤ c) (ht0 : 4 ≤ t) :
    Calls Tryz.prog 179 #[.pointer (some ⟨g, 0, none⟩), .slice (some ⟨s, u, none⟩) 4 t] w fun e w' => e = .returned (.bool (sameMasked 4 xs ms ys)) ∧ ∃ m, w.drewN m = w' := by
  have qn := neq_nil80
  have hn := Lib.hid (nnm_4 g b o c d q f w k0 k1)
  have cx := Lib.hid (fun j hj => C_cell hx j hj)
  have cm := Lib.hid (fun j hj => C_cell hm j hj)
  have cy := Lib.hid (fun j hj => C_cell hy j hj)
  clear hx hm hy k0 k1 hc ht0
  go_enter Tryz.func179, Tryz.ntmps179
  go_wp2_with (first | (go_at_call 181; refine hn.out.mono ?_; rintro e w1 ⟨rfl, rfl⟩) | (go_at_call 89; refine (to4_4 _ _ _).mono ?_; rintro e w1 ⟨rfl, rfl⟩))
  go_loopw [9] (fun v wr => ∃ k m : Nat, k ≤ 4 ∧ v = .int .i64 k ∧ wr = w.drewN m ∧ Hid (sameMasked k xs ms ys = true)) (fun i _ => 4 - (intOf i).toNat)
  case atStart => exact ⟨0, 0, by omega, rfl, rfl, Lib.hid rfl⟩
  case round =>
    obtain ⟨k, m, hk, rfl, rfl, hs⟩ := hrel
    by_cases hlt : k < 4
    · have cx0 := cx.out k hlt
      have cm0 := cm.out k hlt
      have cy0 := cy.out k hlt
      generalize ex : xs.getD k 0 = x at cx0
      generalize em : ms.getD k 0 = mk at cm0
      generalize ey : ys.getD k 0 = y at cy0
      have EX := Lib.hid ex
      have EM := Lib.hid em
      have EY := Lib.hid ey
      clear ex em ey
      by_cases he : bits .and .u8 x mk = bits .and .u8 y mk
      · have t1 : (bits .and .u8 x mk != bits .and .u8 y mk) = false := by simp [he]
        have HE := Lib.hid he
        clear he
        go_wp2
        go_quiet (fail)
        go_wp2
        refine ⟨⟨k + 1, _, by omega, by go_num, rfl, ?_⟩, by simp [intOf]; omega⟩
        exact Lib.hid (by rw [sameMasked_succ, hs.out, EX.out, EM.out, EY.out, HE.out]; simp)
      · have t1 : (bits .and .u8 x mk != bits .and .u8 y mk) = true := by simp [he]
        have HE := Lib.hid he
        clear he
        go_wp2
        go_quiet (fail)
        go_wp2
        go_ret
        exact ⟨ret_bool (sameMasked_no hlt (by rw [EX.out, EM.out, EY.out]; simpa using HE.out)).symm, _, (World.drewN_drewN ..).symm⟩
    · have hk4 := Lib.hid (show k = 4 by omega)
      go_wp2
      go_ret
      exact ⟨ret_bool (by have := hs.out; rw [hk4.out] at this; exact this.symm), m, rfl⟩
set_option maxHeartbeats 2000000 in
theorem contains_16 (g b o c d q f s u t : Nat) (xs ms ys : List Int) (w : World) (k0 : w.cell? ⟨g, 0, none⟩ = some (.slice (some ⟨b, o, none⟩) 16 c)) (k1 : w.cell? ⟨g, 1, none⟩ = some (.slice (some ⟨d, q, none⟩) 16 f))
    (hx : Kd.C (Kd.int .u8) w (some ⟨b, o, none⟩) 16 xs) (hm : Kd.C (Kd.int .u8) w (some ⟨d, q, none⟩) 16 ms) (hy : Kd.C (Kd.int .u8) w (some ⟨s, u, none⟩) 16 ys) (hc : 16 ≤ c) (ht0 : 16 ≤ t) (h4 : is4in6 xs = false) (h4y : is4in6 ys = false) :
    Calls Tryz.prog 179 #[.pointer (some ⟨g, 0, none⟩), .slice (some ⟨s, u, none⟩) 16 t] w fun e w' => e = .returned (.bool (sameMasked 16 xs ms ys)) ∧ ∃ m, w.drewN m = w' := by
  have qn := neq_nil80
  have hn := Lib.hid (nnm_16 g b o c d q f xs w k0 k1 hx hc h4)
  have ht := Lib.hid (fun m => to4_16 s u t ys (w.drewN m) (Kd.C_below hy (pw_below_drewN (Below.refl _ _) m)) ht0)
  rw [h4y] at ht
  have cx := Lib.hid (fun j hj => C_cell hx j hj)
  have cm := Lib.hid (fun j hj => C_cell hm j hj)
  have cy := Lib.hid (fun j hj => C_cell hy j hj)
  clear hx hm hy k0 k1 hc ht0
  go_enter Tryz.func179, Tryz.ntmps179
  go_wp2_with (first | (go_at_call 181; refine hn.out.mono ?_; rintro e w1 ⟨rfl, m0, rfl⟩) | (go_at_call 89; refine (ht.out _).mono ?_; rintro e w1 ⟨rfl, m1, rfl⟩; simp only [cond_false]))
  go_loopw [9] (fun v wr => ∃ k m : Nat, k ≤ 16 ∧ v = .int .i64 k ∧ wr = w.drewN m ∧ Hid (sameMasked k xs ms ys = true)) (fun i _ => 16 - (intOf i).toNat)
  case atStart => exact ⟨0, _, by omega, rfl, rfl, Lib.hid rfl⟩
  case round =>
    obtain ⟨k, m, hk, rfl, rfl, hs⟩ := hrel
    by_cases hlt : k < 16
    · have cx0 := cx.out k hlt
      have cm0 := cm.out k hlt
      have cy0 := cy.out k hlt
      generalize ex : xs.getD k 0 = x at cx0
      generalize em : ms.getD k 0 = mk at cm0
      generalize ey : ys.getD k 0 = y at cy0
      have EX := Lib.hid ex
      have EM := Lib.hid em
      have EY := Lib.hid ey
      clear ex em ey
      by_cases he : bits .and .u8 x mk = bits .and .u8 y mk
      · have t1 : (bits .and .u8 x mk != bits .and .u8 y mk) = false := by simp [he]
        have HE := Lib.hid he
        clear he
        go_wp2
        go_quiet (fail)
        go_wp2
        refine ⟨⟨k + 1, _, by omega, by go_num, rfl, ?_⟩, by simp [intOf]; omega⟩
        exact Lib.hid (by rw [sameMasked_succ, hs.out, EX.out, EM.out, EY.out, HE.out]; simp)
      · have t1 : (bits .and .u8 x mk != bits .and .u8 y mk) = true := by simp [he]
        have HE := Lib.hid he
        clear he
        go_wp2
        go_quiet (fail)
        go_wp2
        go_ret
        exact ⟨ret_bool (sameMasked_no hlt (by rw [EX.out, EM.out, EY.out]; simpa using HE.out)).symm, _, (World.drewN_drewN ..).symm⟩
    · have hk4 := Lib.hid (show k = 16 by omega)
      go_wp2
      go_ret
      exact ⟨ret_bool (by have := hs.out; rw [hk4.out] at this; exact this.symm), m, rfl⟩
theorem contains_46 (g b o c d q f s u t : Nat) (ys : List Int) (w : World) (k0 : w.cell? ⟨g, 0, none⟩ = some (.slice (some ⟨b, o, none⟩) 4 c)) (k1 : w.cell? ⟨g, 1, none⟩ = some (.slice (some ⟨d, q, none⟩) 4 f))
    (hy : Kd.C (Kd.int .u8) w (some ⟨s, u, none⟩) 16 ys) (ht0 : 16 ≤ t) (h4y : is4in6 ys = false) :
    Calls Tryz.prog 179 #[.pointer (some ⟨g, 0, none⟩), .slice (some ⟨s, u, none⟩) 16 t] w fun e w' => e = .returned (.bool false) ∧ ∃ m, w.drewN m = w' := by
  have qn := neq_nil80
  have hn := Lib.hid (nnm_4 g b o c d q f w k0 k1)
  have ht := Lib.hid (to4_16 s u t ys w hy ht0)
  rw [h4y] at ht
  clear hy k0 k1 h4y
  go_enter Tryz.func179, Tryz.ntmps179
  go_wp2_with (first | (go_at_call 181; refine hn.out.mono ?_; rintro e w1 ⟨rfl, rfl⟩) | (go_at_call 89; refine ht.out.mono ?_; rintro e w1 ⟨rfl, m1, rfl⟩; simp only [cond_false]))
  go_ret
  exact ⟨rfl, m1, rfl⟩
end Go.Proofs.YtpemdpfageikfaaGreatDoor.R
/-
  The four kinds of rules and what each answers: allMatch, cidrMatch, ipMatch, domainMatch.
-/
namespace Go.Proofs.YtpemdpfageikfaaGreatDoor.R
open Go.RowKit Go.Proofs.YtpemdpfageikfaaGreatDoorW.PrintWords Go.Proofs.YtpemdpfageikfaaGreatDoorW.PrintLast Go.Proofs.YtpemdpfageikfaaGreatDoorW.PrintMore

theorem all_match (host port : ByteArray) (ip : Value) (w : World) :
    Calls Tryz.prog 177 #[.agg #[], .string host, .string port, ip] w fun e w' => e = .returned (.bool true) ∧ Below w.heap.size w w' := by
  go_enter Tryz.func177, Tryz.ntmps177
  go_wp2
  go_ret
  exact ⟨rfl, by go_grown⟩
theorem cidr_match (g : Nat) (host port : ByteArray) (ip : Value) (r : Bool) (w : World)
    (h : ∀ o, Calls Tryz.prog 179 #[.pointer (some ⟨g, 0, none⟩), ip] (w.alloc o) fun e w' => e = .returned (.bool r) ∧ ∃ m, (w.alloc o).drewN m = w') :
    Calls Tryz.prog 180 #[.agg #[.pointer (some ⟨g, 0, none⟩)], .string host, .string port, ip] w fun e w' => e = .returned (.bool r) ∧ Below w.heap.size w w' := by
  have H := Lib.hid h
  clear h
  go_enter Tryz.func180, Tryz.ntmps180
  go_wp2_with (go_at_call 179; refine (H.out _).mono ?_; rintro e w1 ⟨rfl, m, rfl⟩)
  go_ret
  exact ⟨rfl, by (go_grown; exact pw_below_drewN (by go_grown) _)⟩
theorem ip_match (A : Option Addr) (n c : Nat) (ip : Value) (p host port : ByteArray) (r : Bool) (w : World)
    (h : ∀ o, Calls Tryz.prog 90 #[.slice A n c, ip] (w.alloc o) fun e w' => e = .returned (.bool r) ∧ Below (w.alloc o).heap.size (w.alloc o) w') :
    Calls Tryz.prog 182 #[.agg #[.slice A n c, .string p], .string host, .string port, ip] w fun e w' => e = .returned (.bool (r && (p.toList.isEmpty || p.toList == port.toList))) ∧ Below w.heap.size w w' := by
  have H := Lib.hid h
  clear h
  cases r with
  | false =>
    go_enter Tryz.func182, Tryz.ntmps182
    go_wp2_with (go_at_call 90; refine (H.out _).mono ?_; rintro e w1 ⟨rfl, hb⟩)
    go_ret
    exact ⟨rfl, blw (by go_grown) hb⟩
  | true =>
    go_enter Tryz.func182, Tryz.ntmps182
    go_wp2_with fail
    refine (H.out _).mono ?_
    rintro e w1 ⟨rfl, hb⟩
    have k1 : w1.cell? ⟨w.heap.size, 1, none⟩ = some (.string p) := pw_cell_below hb (by simp)
    have HB := Lib.hid (blw (below_alloc (Below.refl w.heap.size w) _) hb)
    clear hb
    cases hp : p.toList.isEmpty with
    | true =>
      go_wp2
      go_ret
      exact ⟨by simp [hp], HB.out⟩
    | false =>
      go_wp2
      go_ret
      exact ⟨by simp [hp], HB.out⟩
theorem dom_match_ip (a : Addr) (n c : Nat) (h p host port : ByteArray) (mh : Bool) (w : World) :
    Calls Tryz.prog 183 #[.agg #[.string h, .string p, .bool mh], .string host, .string port, .slice (some a) n c] w fun e w' => e = .returned (.bool false) ∧ Below w.heap.size w w' := by
  have qn := neq_nil80
  go_enter Tryz.func183, Tryz.ntmps183
  go_wp2
  go_ret
  exact ⟨rfl, by go_grown⟩
set_option maxHeartbeats 1000000 in
theorem dom_match_host (h p host port : ByteArray) (mh : Bool) (w : World) (h1 : 1 ≤ h.size) (hmax : host.size ≤ 9223372036854775807) (hs he : Bool) (e1 : Lib.hasSuffix host.data.toList h.data.toList = hs) (e2 : (host.toList == (h.extract 1 h.size).toList) = he) :
    Calls Tryz.prog 183 #[.agg #[.string h, .string p, .bool mh], .string host, .string port, .slice none 0 0] w fun e w' => e = .returned (.bool ((hs || (mh && he)) && (p.toList.isEmpty || p.toList == port.toList))) ∧ Below w.heap.size w w' := by
  have qn := neq_nil80
  have cS := Lib.hid (fun wx => (Tryz.strings_HasSuffix host h wx hmax).mono fun _ _ (x : _ = Ending.returned (.bool (Lib.hasSuffix host.data.toList h.data.toList)) ∧ _) => And.intro (x.1.trans (by rw [e1])) x.2.symm)
  clear e1
  cases hp : p.toList.isEmpty <;> cases hs <;> cases mh <;> cases he <;>
  · go_enter Tryz.func183, Tryz.ntmps183
    go_wp2_with (go_at_call 121; refine (cS.out _).mono ?_; rintro e w1 ⟨rfl, rfl⟩)
    go_ret
    exact ⟨by simp [hp], by go_grown⟩
end Go.Proofs.YtpemdpfageikfaaGreatDoor.R
/-
  A block of bytes put anew (put), and parseIPv4Fields.
-/
namespace Go.Proofs.YtpemdpfageikfaaGreatDoor.R
open Go.RowKit Go.Proofs.YtpemdpfageikfaaGreatDoorW.PrintWords Go.Proofs.YtpemdpfageikfaaGreatDoorW.PrintLast Go.Proofs.YtpemdpfageikfaaGreatDoorW.PrintMore

/-- The world with block b holding these bytes. -/
def put (w : World) (b : Nat) (l : List Int) (T : TypeId) : World := { w with heap := w.heap.setIfInBounds b (.cells (nums .u8 l).toArray T) }
section
variable {w : World} {b : Nat} {l l' : List Int} {T : TypeId}
theorem put_size : (put w b l T).heap.size = w.heap.size := by simp [put]
theorem put_at (h : b < w.heap.size) : (put w b l T).heap[b]? = some (.cells (nums .u8 l).toArray T) := by simp [put, h]
theorem put_other {k : Nat} (h : k ≠ b) : (put w b l T).heap[k]? = w.heap[k]? := by
  simp only [put]
  rw [Array.getElem?_setIfInBounds_ne (Ne.symm h)]
theorem put_self (h : w.heap[b]? = some (.cells (nums .u8 l).toArray T)) : put w b l T = w := by
  have hb := blk_lt' h
  have : w.heap.setIfInBounds b (.cells (nums .u8 l).toArray T) = w.heap := by
    apply Array.ext_getElem?
    intro i
    by_cases e : b = i
    · subst e; rw [Array.getElem?_setIfInBounds_self]; simp [hb, h]; simpa [hb] using h.symm
    · rw [Array.getElem?_setIfInBounds_ne e]
  unfold put
  rw [this]
theorem put_put : put (put w b l T) b l' T = put w b l' T := by
  simp only [put]
  congr 1
  apply Array.ext_getElem?
  intro i
  by_cases e : b = i
  · subst e; rw [Array.getElem?_setIfInBounds_self, Array.getElem?_setIfInBounds_self]; simp
  · rw [Array.getElem?_setIfInBounds_ne e, Array.getElem?_setIfInBounds_ne e, Array.getElem?_setIfInBounds_ne e]
theorem put_set (h : b < w.heap.size) (k : Nat) (v : Int) : (put w b l T).setCell ⟨b, k, none⟩ (.int .u8 v) = put w b (l.set k v) T := by
  have e : (nums .u8 (l.set k v)) = (nums .u8 l).set k (.int .u8 v) := by simp [nums, List.map_set]
  simp only [put, World.setCell, e]
  congr 1
  apply Array.ext_getElem?
  intro i
  rw [Array.getElem?_modify]
  by_cases e : b = i
  · subst e; simp [h]
  · rw [if_neg e, Array.getElem?_setIfInBounds_ne e, Array.getElem?_setIfInBounds_ne e]
theorem put_last (o : Obj) (h : b = w.heap.size) : put (w.alloc o) b l T = w.alloc (.cells (nums .u8 l).toArray T) := by
  subst h
  simp only [put, World.alloc]
  congr 1
  apply Array.ext_getElem?
  intro i
  by_cases e : w.heap.size = i
  · subst e; simp
  · rw [Array.getElem?_setIfInBounds_ne e]
    simp only [Array.getElem?_push]
    rw [if_neg (Ne.symm e), if_neg (Ne.symm e)]
theorem put_cell (h : b < w.heap.size) (k : Nat) (hk : k < l.length) : (put w b l T).cell? ⟨b, k, none⟩ = some (.int .u8 (l.getD k 0)) := by
  simp [World.cell?, put_at h, nums, hk]
theorem put_froz (h : b < w.heap.size) (k : Nat) : (put w b l T).frozen? ⟨b, k, none⟩ = false := by
  simp [World.frozen?, put_at h]
end
end Go.Proofs.YtpemdpfageikfaaGreatDoor.R
