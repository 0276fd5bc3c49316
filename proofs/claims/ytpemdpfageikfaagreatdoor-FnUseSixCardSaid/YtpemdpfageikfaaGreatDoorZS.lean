/- SixText. -/
import Derived.Test.YtpemdpfageikfaaGreatDoorZR
set_option linter.unusedVariables false
set_option linter.unusedSimpArgs false
/- spec.SixText. -/
namespace Go.Proofs.YtpemdpfageikfaaGreatDoor.R
open Go.RowKit Go.Proofs.YtpemdpfageikfaaGreatDoorW.PrintWords Go.Proofs.YtpemdpfageikfaaGreatDoorW.PrintLast Go.Proofs.YtpemdpfageikfaaGreatDoorW.PrintMore

theorem dec_conv (W : World) (n : Nat) : (convert 27 9 (Value.slice (some ⟨W.heap.size, 0, none⟩) 1 1)).run Tryz.prog (W.alloc (.cells #[.int .u8 (48 + (n : Int) % 10)] 5)) = .ok (.string (bA [dd n])) (W.alloc (.cells #[.int .u8 (48 + (n : Int) % 10)] 5)) := by
  have h := C_block (l := [48 + (n : Int) % 10]) (heap_new W (.cells #[.int .u8 (48 + (n : Int) % 10)] 5)) 0 1 (by simp) (by omega)
  have := Kd.C_string (P := Tryz.prog) (src := 27) (dst := 9) (c := 1) Tryz.underlying27 Tryz.underlying5 Tryz.underlying9 h
  rw [this]
  congr 2
theorem dec_cons (n : Nat) (g : List UInt8) : bA [dd n] ++ bA g = bA (dd n :: g) := by
  apply bA_ext
  simp [bA_list]
theorem below_alloc' {B : Nat} {w0 w : World} (h : Below B w0 w) (hB : B ≤ w.heap.size) (o : Obj) : Below B w0 (w.alloc o) :=
  h.trans ⟨rfl, rfl, rfl, by simp, fun k hk => heap_old _ _ _ (by omega)⟩
set_option maxRecDepth 100000 in
set_option maxHeartbeats 4000000 in
theorem sixText19 (b0 b1 b2 b3 b4 b5 b6 b7 b8 b9 b10 b11 b12 b13 b14 b15 : Int) (n0 : Nat) (w : World) (hby : ∀ x ∈ [b0, b1, b2, b3, b4, b5, b6, b7, b8, b9, b10, b11, b12, b13, b14, b15], 0 ≤ x ∧ x ≤ 255) (hn0 : n0 ≤ 129) :
    Calls Tryz.prog 19 #[.agg #[.int .u8 b0, .int .u8 b1, .int .u8 b2, .int .u8 b3, .int .u8 b4, .int .u8 b5, .int .u8 b6, .int .u8 b7, .int .u8 b8, .int .u8 b9, .int .u8 b10, .int .u8 b11, .int .u8 b12, .int .u8 b13, .int .u8 b14, .int .u8 b15], .int .i64 n0] w fun e w' => e = .returned (.string (bA (sixT [b0, b1, b2, b3, b4, b5, b6, b7, b8, b9, b10, b11, b12, b13, b14, b15] n0))) ∧ Below w.heap.size w w' := by
  have H := Lib.hid (fun W => hex31 [b0, b1, b2, b3, b4, b5, b6, b7, b8, b9, b10, b11, b12, b13, b14, b15] W rfl hby)
  have hO := outK_len hby 8
  unfold sixT
  generalize outK [b0, b1, b2, b3, b4, b5, b6, b7, b8, b9, b10, b11, b12, b13, b14, b15] 8 = O at H hO ⊢
  have s1 : (bA O).size = O.length := bA_size O
  have s2 : (bA O ++ (⟨#[47]⟩ : ByteArray)).size = O.length + 1 := by rw [ByteArray.size_append, bA_size]; rfl
  by_cases h8 : n0 ≤ 128
  · rw [if_pos h8]
    go_enter Tryz.func19, Tryz.ntmps19
    go_wp2
    have hbox : ∀ wr, Below (w.heap.size + 1) (w.alloc (.cells #[.int .u8 b0, .int .u8 b1, .int .u8 b2, .int .u8 b3, .int .u8 b4, .int .u8 b5, .int .u8 b6, .int .u8 b7, .int .u8 b8, .int .u8 b9, .int .u8 b10, .int .u8 b11, .int .u8 b12, .int .u8 b13, .int .u8 b14, .int .u8 b15] 28)) wr → Below w.heap.size w wr ∧ ∀ k, wr.cell? ⟨w.heap.size, k, none⟩ = ([b0, b1, b2, b3, b4, b5, b6, b7, b8, b9, b10, b11, b12, b13, b14, b15][k]?).map (Value.int .u8) := fun wr hb => by
      refine ⟨(below_alloc (Below.refl _ _) _).trans (hb.mono (Nat.le_succ _)), fun k => ?_⟩
      have hh := (hb.block w.heap.size (Nat.lt_succ_self _)).trans (heap_new _ _)
      simp only [World.cell?, hh, Option.isSome_none, Bool.false_eq_true, if_false]
      rw [← List.getElem?_map, ← List.getElem?_toArray]
      rfl
    have HBX := Lib.hid hbox
    clear hbox
    rw [decide_eq_true (show (n0 : Int) ≤ 128 by omega)]
    go_loopw [5, 6] (fun v5 v6 wr => ∃ (g : List UInt8) (n : Nat), v5 = .string (bA g) ∧ v6 = .int .i64 n ∧ n ≤ 128 ∧ g.length ≤ 3 ∧ Hid (Below (w.heap.size + 1) (w.alloc (.cells #[.int .u8 b0, .int .u8 b1, .int .u8 b2, .int .u8 b3, .int .u8 b4, .int .u8 b5, .int .u8 b6, .int .u8 b7, .int .u8 b8, .int .u8 b9, .int .u8 b10, .int .u8 b11, .int .u8 b12, .int .u8 b13, .int .u8 b14, .int .u8 b15] 28)) wr) ∧ Hid ((g = [] ∧ n = n0) ∨ (g ≠ [] ∧ decR n ++ g = decL n0))) (fun g n _ => 2 * (intOf n).toNat + emp g)
    case atStart => exact ⟨[], n0, rfl, rfl, h8, by simp, Lib.hid (Below.refl _ _), Lib.hid (Or.inl ⟨rfl, rfl⟩)⟩
    case round =>
      obtain ⟨g, n, rfl, rfl, hn, hgl, HB, hg⟩ := hrel
      have sg : (bA g).size = g.length := bA_size g
      by_cases h0 : 0 < n
      · have hcv := dec_conv wr n
        have s3 : (bA [dd n]).size = 1 := bA_size _
        go_wp2
        refine ⟨⟨dd n :: g, n / 10, congrArg Value.string (dec_cons n g), by go_num, by omega, ?_, Lib.hid (below_alloc' HB.out (by have := HB.out.size; simp at this; omega) _), Lib.hid ?_⟩, by simp [intOf, emp, dec_cons, bA_size]; omega⟩
        · rcases hg.out with ⟨rfl, _⟩ | ⟨_, e⟩
          · simp
          · have := congrArg List.length e
            rw [decR_pos h0, decL] at this
            have h4 := decL_len (n := n0) (by omega)
            simp at this ⊢
            omega
        · right
          refine ⟨by simp, ?_⟩
          rcases hg.out with ⟨rfl, rfl⟩ | ⟨_, e⟩
          · rfl
          · rw [← e, decR_pos h0, decL, List.append_assoc]
            rfl
      · obtain rfl : n = 0 := by omega
        by_cases hg0 : g = []
        · subst hg0
          clear h0
          have hz : (bA []).toList.isEmpty = true := by rw [bA_toList]; rfl
          have hcv := dec_conv wr 0
          have s3 : (bA [dd 0]).size = 1 := bA_size _
          simp only [Int.natCast_zero, Int.zero_emod, Int.add_zero] at hcv
          go_wp2
          refine ⟨⟨[dd 0], 0, congrArg Value.string (dec_cons 0 []), by go_num, by omega, by simp, Lib.hid (below_alloc' HB.out (by have := HB.out.size; simp at this; omega) _), Lib.hid ?_⟩, by simp [intOf, emp, dec_cons, bA_size]⟩
          right
          refine ⟨by simp, ?_⟩
          rcases hg.out with ⟨_, e⟩ | ⟨e, _⟩
          · rw [← e]; rfl
          · exact absurd rfl e
        · have hz : (bA g).toList.isEmpty = false := by rw [bA_toList]; simpa using hg0
          have hfin : g = decL n0 := by
            rcases hg.out with ⟨e, _⟩ | ⟨_, e⟩
            · exact absurd e hg0
            · rw [← e, decR, dif_pos rfl]; rfl
          have HF := Lib.hid hfin
          obtain ⟨hb0, C⟩ := HBX.out _ HB.out
          have HB0 := Lib.hid hb0
          clear h0 hg0 hg hfin hb0 HBX HB
          go_wp2_with fail
          refine (H.out _).mono ?_
          rintro e w1 ⟨rfl, hb⟩
          have HB1 := Lib.hid (blw HB0.out hb)
          clear hb
          go_wp2
          go_ret
          refine ⟨congrArg (fun x => Ending.returned (Value.string x)) ?_, HB1.out⟩
          rw [← HF.out]
          apply bA_ext
          simp [bA_list]
  · rw [if_neg h8]
    go_enter Tryz.func19, Tryz.ntmps19
    go_wp2_with fail
    refine (H.out _).mono ?_
    rintro e w1 ⟨rfl, hb⟩
    have HB := Lib.hid (blw (show Below w.heap.size w _ from by go_grown) hb)
    clear hb
    go_wp2
    go_ret
    exact ⟨rfl, HB.out⟩
end Go.Proofs.YtpemdpfageikfaaGreatDoor.R
