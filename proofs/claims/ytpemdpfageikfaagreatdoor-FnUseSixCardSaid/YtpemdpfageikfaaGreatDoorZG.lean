/- parseIPv6. -/
import Derived.Test.YtpemdpfageikfaaGreatDoorZF
import Derived.Deep.DeepCutAuto
import Derived.BigQuiet
import Derived.Deep.CutBlock
set_option linter.unusedVariables false
set_option linter.unusedSimpArgs false
/- parseIPv6, for texts without '::' whose points are wrong. -/
namespace Go.Proofs.YtpemdpfageikfaaGreatDoor.R
open Go.RowKit Go.Proofs.YtpemdpfageikfaaGreatDoorW.PrintWords Go.Proofs.YtpemdpfageikfaaGreatDoorW.PrintLast Go.Proofs.YtpemdpfageikfaaGreatDoorW.PrintMore

def zeros16 : List Int := [0, 0, 0, 0, 0, 0, 0, 0, 0, 0, 0, 0, 0, 0, 0, 0]
def Good6 (t : ByteArray) (R : Option (List Int)) : Prop := dbl t.data.toList = false ∧ Okp 0 t.data.toList ∧ g6 8 t.data.toList zeros16 = R
/-- What the text says: with a zone, without one. -/
def Cond6 (s : ByteArray) (R : Option (List Int)) : Prop :=
  (Lib.indexByte s.data.toList 37 = -1 ∧ Good6 s R) ∨ ∃ n : Nat, n < s.size ∧ Lib.indexByte s.data.toList 37 = n ∧ R = none ∧ Good6 (s.extract 0 n) R

theorem dbl_two (t : ByteArray) (h : 2 ≤ t.size) (hd : dbl t.data.toList = false) : ((t[0]'(by omega)).toNat : Int) ≠ 58 ∨ ((t[1]'(by omega)).toNat : Int) ≠ 58 := by
  have e : t.data.toList = t[0]'(by omega) :: t[1]'(by omega) :: t.data.toList.drop 2 := by
    have := List.drop_eq_getElem_cons (l := t.data.toList) (i := 0) (by simpa using (by omega : 0 < t.size))
    have h2 := List.drop_eq_getElem_cons (l := t.data.toList) (i := 1) (by simpa using (by omega : 1 < t.size))
    rw [List.drop_zero] at this
    rw [this, h2]
    rfl
  rw [e, dbl, Bool.or_eq_false_iff] at hd
  have := hd.1
  simp at this
  omega

set_option maxRecDepth 100000 in
set_option maxHeartbeats 8000000 in
theorem parse6 (s : ByteArray) (hi lo : Int) (p4 p6 : Addr) (w : World) (hE : Env w p4 p6) (hs : s.size ≤ 140737488351232) (R : Option (List Int)) (hC : Cond6 s R)
    (hR : ∀ bs, R = some bs → Q.byteorder_BEUint64.f (bs.take 8) = some hi ∧ Q.byteorder_BEUint64.f (bs.drop 8) = some lo) :
    Calls Tryz.prog 86 #[.string s] w (PostPA p4 p6 w (R.map fun _ => (true, hi, lo))) := by
  have HE := Lib.hid hE
  have HR := Lib.hid hR
  have HC := Lib.hid hC
  clear hE hR hC
  go_enter Tryz.func86, Tryz.ntmps86
  go_wp2_with fail
  rw [run_callFunc_extern Tryz.func115 (by kernel_rfl) (by kernel_rfl) (by kernel_rfl) (e := Extern.BytealgIndexByte.indexByte) (by kernel_rfl), Lib.run_indexByteString]
  simp only [Result.andThen]
  rw [Oper.upon_value]
  go_upto_if 20 with fail
  go_cut [4, 5] from 16 to 33 (fun v4 v5 wc => ∃ t z : ByteArray, v4 = .string t ∧ v5 = .string z ∧ Hid (Good6 t R) ∧ Hid (z = ⟨#[]⟩ ∨ R = none) ∧ t.size ≤ 140737488351232 ∧ wc.heap.size = w.heap.size + 1 ∧ Hid (wc.heap[w.heap.size]? = some (.cells #[.int .u64 0, .int .u64 0, .pointer none] 102)) ∧ Hid (Below w.heap.size w wc))
  case first =>
    rcases HC.out with ⟨h1, h2⟩ | ⟨n, hn, h1, h2, h3⟩
    · have H2 := Lib.hid h2
      clear h2
      go_wp2
      go_meet
      case rel => exact ⟨s, _, rfl, rfl, H2, Lib.hid (Or.inl rfl), hs, by simp, Lib.hid (heap_new _ _), Lib.hid (by go_grown)⟩
    · have H2 := Lib.hid h2
      have H3 := Lib.hid h3
      clear h2 h3
      have t1 : (Lib.indexByte s.data.toList 37 != -1) = true := by rw [h1]; simp
      have hsz : (s.extract 0 n).size = n := by simp; omega
      have H1 := Lib.hid hsz
      clear hsz
      by_cases hz : (s.extract (n + 1) s.size).toList.isEmpty = true
      · have N3 := H2.out
        subst N3
        go_wp2
        go_quiet (fail)
        go_wp2
        go_returns
        exact ⟨by (go_grown; exact pw_below_drewN (by go_grown) _), _, rfl⟩
      · go_wp2
        go_quiet (fail)
        go_wp2
        go_meet
        case rel => exact ⟨_, _, rfl, rfl, H3, Lib.hid (Or.inr H2.out), by rw [H1.out]; omega, by simp, Lib.hid (heap_new _ _), Lib.hid (pw_below_drewN (by go_grown) _)⟩
  case rest =>
    obtain ⟨t, z, rfl, rfl, HG, HZ, ht, hws, HA, HB⟩ := hcut
    go_upto_region 9 with fail
    go_upto_region 10 with fail
    go_cut [46] from 34 to 46 (fun v46 wx => v46 = .bool false ∧ wx = wc.alloc (Obj.cells (nums .u8 zeros16).toArray 28))
    case first =>
      by_cases h2 : 2 ≤ t.size
      · have h3 := dbl_two t h2 HG.out.1
        obtain ⟨x, hx⟩ : ∃ x : Int, ((t[0]'(by omega)).toNat : Int) = x := ⟨_, rfl⟩
        obtain ⟨y, hy⟩ : ∃ y : Int, ((t[1]'(by omega)).toNat : Int) = y := ⟨_, rfl⟩
        by_cases h4 : x = 58
        · have tx : (x == 58) = true := by simp [h4]
          have ty : (y == 58) = false := by simp; omega
          clear h3 h4
          go_wp2
          go_meet
          case rel => exact ⟨rfl, rfl⟩
        · have tx : (x == 58) = false := by simp [h4]
          clear h3 h4
          go_wp2
          go_meet
          case rel => exact ⟨rfl, rfl⟩
      · go_wp2
        go_meet
        case rel => exact ⟨rfl, rfl⟩
    case rest =>
      obtain ⟨rfl, rfl⟩ := hcut
      have hlt : w.heap.size + 1 < (wc.alloc (Obj.cells (nums .u8 zeros16).toArray 28)).heap.size := by simp; omega
      have hA0 : (wc.alloc (Obj.cells (nums .u8 zeros16).toArray 28)).heap[w.heap.size]? = some (Obj.cells #[.int .u64 0, .int .u64 0, .pointer none] 102) := by rw [heap_old _ _ _ (by omega)]; exact HA.out
      have hP := put_self (blk_last wc (Obj.cells (nums .u8 zeros16).toArray 28) (w.heap.size + 1) (by omega))
      have hB0 : Below w.heap.size w (wc.alloc (Obj.cells (nums .u8 zeros16).toArray 28)) := below_alloc HB.out _
      generalize wc.alloc (Obj.cells (nums .u8 zeros16).toArray 28) = W0 at hlt hA0 hP hB0 ⊢
      have a0 : ∀ l, (put W0 (w.heap.size + 1) l 28).cell? ⟨w.heap.size, 0, none⟩ = some (.int .u64 0) := fun l => by simp [World.cell?, put_other (show w.heap.size ≠ w.heap.size + 1 by omega), hA0]
      have a1 : ∀ l, (put W0 (w.heap.size + 1) l 28).cell? ⟨w.heap.size, 1, none⟩ = some (.int .u64 0) := fun l => by simp [World.cell?, put_other (show w.heap.size ≠ w.heap.size + 1 by omega), hA0]
      have a2 : ∀ l, (put W0 (w.heap.size + 1) l 28).cell? ⟨w.heap.size, 2, none⟩ = some (.pointer none) := fun l => by simp [World.cell?, put_other (show w.heap.size ≠ w.heap.size + 1 by omega), hA0]
      have fA : ∀ l j, (put W0 (w.heap.size + 1) l 28).frozen? ⟨w.heap.size, j, none⟩ = false := fun l j => by simp [World.frozen?, put_other (show w.heap.size ≠ w.heap.size + 1 by omega), hA0]
      have fB : ∀ l j, (put W0 (w.heap.size + 1) l 28).frozen? ⟨w.heap.size + 1, j, none⟩ = false := fun l j => put_froz hlt j
      have fin : R = none → ∀ (ev : Value) (W' : World), Below w.heap.size w W' → PostPA p4 p6 w (R.map fun _ => (true, hi, lo)) (.returned (.tuple #[.agg #[.int .u64 0, .int .u64 0, .pointer none], .iface 145 ev])) W' := fun hr ev W' hb => by subst hr; exact ⟨hb, ev, rfl⟩
      have blo : ∀ l, Below w.heap.size w (put W0 (w.heap.size + 1) l 28) := fun l => put_below hB0 (by omega)
      have A0 := Lib.hid a0
      have A1 := Lib.hid a1
      have A2 := Lib.hid a2
      have FA := Lib.hid fA
      have FB := Lib.hid fB
      have FIN := Lib.hid fin
      have BLO := Lib.hid blo
      have HP := Lib.hid hP
      have HAA := Lib.hid (show ∀ l, (put W0 (w.heap.size + 1) l 28).heap[w.heap.size]? = some (Obj.cells #[.int .u64 0, .int .u64 0, .pointer none] 102) from fun l => (put_other (by omega)).trans hA0)
      clear a0 a1 a2 fA fB fin blo hA0 hP hB0
      go_wp2
      go_loopw [4, 6, 8] (fun v4 v6 v8 wr => ∃ (st : ByteArray) (i k : Nat) (bs : List Int), v4 = .string st ∧ v6 = .int .i64 i ∧ v8 = .int .i64 (-1) ∧ i + 2 * k = 16 ∧ st.size ≤ 140737488351232 ∧ (k = 8 ∨ 0 < st.size) ∧ bs.length = 16 ∧ wr = put W0 (w.heap.size + 1) bs 28 ∧ Hid (dbl st.data.toList = false) ∧ Hid (Okp i st.data.toList) ∧ Hid (g6 k st.data.toList bs = R)) (fun _ i _ _ => 16 - (intOf i).toNat)
      case atStart => exact ⟨t, 0, 8, zeros16, rfl, rfl, rfl, rfl, ht, Or.inl rfl, rfl, HP.out.symm, Lib.hid HG.out.1, Lib.hid HG.out.2.1, Lib.hid HG.out.2.2⟩
      case round =>
        obtain ⟨st, i, k, bs, rfl, rfl, rfl, hik, hst, hne, hbl, rfl, HD, HO, H6⟩ := hrel
        have a0 := A0.out bs
        have a1 := A1.out bs
        have a2 := A2.out bs
        have fA := FA.out bs
        have fB := FB.out bs
        by_cases hk : k = 0
        · have hi16 : i = 16 := by omega
          subst hk
          subst hi16
          have hne' : 0 < st.size := by omega
          go_wp2
          refine bodyPost_ret (by simp [results, Tryz.results86, go_sem, a0, a1, a2]; try rfl) rfl ?_
          exact FIN.out (by rw [← H6.out]; rfl) _ _ ((((BLO.out bs).setCell (Nat.le_refl _) _).setCell (Nat.le_refl _) _).setCell (Nat.le_refl _) _)
        · obtain ⟨m, rfl⟩ : ∃ m, k = m + 1 := ⟨k - 1, by omega⟩
          have hi14 : i ≤ 14 := by omega
          clear hk
          go_upto_block 2 with fail
          go_cut [9, 10] from 55 to 117 (fun v9 v10 wx => ∃ off acc : Nat, v9 = .int .i64 off ∧ v10 = .int .u32 acc ∧ off ≤ st.size ∧ acc ≤ 65535 ∧ wx = put W0 (w.heap.size + 1) bs 28 ∧ Hid (hx st.data.toList 0 0 = some (off, acc)))
          case first =>
            go_wp2
            go_loopw [9, 10] (fun v9 v10 wr => ∃ (off acc : Nat), v9 = .int .i64 off ∧ v10 = .int .u32 acc ∧ off ≤ st.size ∧ off ≤ 4 ∧ acc ≤ 65535 ∧ wr = put W0 (w.heap.size + 1) bs 28 ∧ Hid (hx (st.data.toList.drop off) off acc = hx st.data.toList 0 0)) (fun o _ _ => st.size - (intOf o).toNat)
            case atStart => exact ⟨0, 0, rfl, rfl, by omega, by omega, by omega, rfl, Lib.hid rfl⟩
            case round =>
              obtain ⟨off, acc, rfl, rfl, ho, ho4, hac, rfl, HX⟩ := hrel
              by_cases hlo : off < st.size
              · obtain ⟨c, hc⟩ : ∃ c, st[off] = c := ⟨_, rfl⟩
                have hdr : st.data.toList.drop off = c :: st.data.toList.drop (off + 1) := by
                  rw [List.drop_eq_getElem_cons (by simpa using hlo), ← hc]; rfl
                have H1 := HX.out
                rw [hdr, hx] at H1
                obtain ⟨x, hx'⟩ : ∃ x : Int, (c.toNat : Int) = x := ⟨_, rfl⟩
                have x255 : x ≤ 255 := by have := c.toNat_lt; omega
                have x0 : 0 ≤ x := by omega
                have hxc := Lib.hid hx'
                replace hx' : ((st[off]'hlo).toNat : Int) = x := by rw [hc]; exact hx'
                have h1 := Lib.hid H1
                clear hc hdr HX H1
                rcases (show (48 ≤ x ∧ x ≤ 57) ∨ (97 ≤ x ∧ x ≤ 102) ∨ (65 ≤ x ∧ x ≤ 70) ∨ x < 48 ∨ (57 < x ∧ x < 65) ∨ (70 < x ∧ x < 97) ∨ 102 < x from by omega) with q | q | q | q | q | q | q
                · obtain ⟨q1, q2⟩ := q
                  have h2 := h1.out
                  rw [show dig c.toNat = some (c.toNat - 48) from by have := hxc.out; unfold dig; rw [if_pos ⟨by omega, by omega⟩]] at h2
                  have H2 := Lib.hid h2
                  clear h1 h2
                  by_cases e3 : 3 < off
                  · have r0 : R = none := by
                      have h2 := H2.out
                      simp only [if_pos e3] at h2
                      rw [← H6.out, g6, ← h2]
                    have R0 := Lib.hid r0
                    clear r0
                    go_wp2
                    refine bodyPost_ret (by simp [results, Tryz.results86, go_sem, a0, a1, a2]; try rfl) rfl ?_
                    exact FIN.out R0.out _ _ ((((BLO.out bs).setCell (Nat.le_refl _) _).setCell (Nat.le_refl _) _).setCell (Nat.le_refl _) _)
                  · by_cases e4 : 65535 < (acc : Int) * 16 + (x - 48)
                    · have r0 : R = none := by
                        have h2 := H2.out
                        have := hxc.out
                        simp only [if_neg e3] at h2
                        rw [if_pos (by omega)] at h2
                        rw [← H6.out, g6, ← h2]
                      have R0 := Lib.hid r0
                      clear r0
                      go_wp2
                      refine bodyPost_ret (by simp [results, Tryz.results86, go_sem, a0, a1, a2]; try rfl) rfl ?_
                      exact FIN.out R0.out _ _ ((((BLO.out bs).setCell (Nat.le_refl _) _).setCell (Nat.le_refl _) _).setCell (Nat.le_refl _) _)
                    · have fin2 : hx (st.data.toList.drop (off + 1)) (off + 1) (acc * 16 + (c.toNat - 48)) = hx st.data.toList 0 0 := by
                        have h2 := H2.out
                        have := hxc.out
                        simp only [if_neg e3] at h2
                        rw [if_neg (by omega)] at h2
                        exact h2
                      have FIN2 := Lib.hid fin2
                      clear fin2
                      go_wp2
                      first
                        | exact ⟨⟨off + 1, acc * 16 + (c.toNat - 48), by go_num, int_eq (by have := hxc.out; omega), by omega, by omega, by have := hxc.out; omega, by trivial, FIN2⟩, by simp [intOf]; omega⟩
                        | (refine ⟨?_, by simp [intOf]; omega⟩
                           (repeat apply Exists.intro)
                           refine ⟨?_, rfl, rfl, rfl⟩
                           exact ⟨off + 1, by go_num, acc * 16 + (c.toNat - 48), int_eq (by have := hxc.out; omega), by omega, by omega, by have := hxc.out; omega, by trivial, FIN2⟩)
                · obtain ⟨q1, q2⟩ := q
                  have h2 := h1.out
                  rw [show dig c.toNat = some (c.toNat - 87) from by have := hxc.out; unfold dig; rw [if_neg (by omega), if_pos ⟨by omega, by omega⟩]] at h2
                  have H2 := Lib.hid h2
                  clear h1 h2
                  by_cases e3 : 3 < off
                  · have r0 : R = none := by
                      have h2 := H2.out
                      simp only [if_pos e3] at h2
                      rw [← H6.out, g6, ← h2]
                    have R0 := Lib.hid r0
                    clear r0
                    go_wp2
                    refine bodyPost_ret (by simp [results, Tryz.results86, go_sem, a0, a1, a2]; try rfl) rfl ?_
                    exact FIN.out R0.out _ _ ((((BLO.out bs).setCell (Nat.le_refl _) _).setCell (Nat.le_refl _) _).setCell (Nat.le_refl _) _)
                  · by_cases e4 : 65535 < (acc : Int) * 16 + (x - 97 + 10)
                    · have r0 : R = none := by
                        have h2 := H2.out
                        have := hxc.out
                        simp only [if_neg e3] at h2
                        rw [if_pos (by omega)] at h2
                        rw [← H6.out, g6, ← h2]
                      have R0 := Lib.hid r0
                      clear r0
                      go_wp2
                      refine bodyPost_ret (by simp [results, Tryz.results86, go_sem, a0, a1, a2]; try rfl) rfl ?_
                      exact FIN.out R0.out _ _ ((((BLO.out bs).setCell (Nat.le_refl _) _).setCell (Nat.le_refl _) _).setCell (Nat.le_refl _) _)
                    · have fin2 : hx (st.data.toList.drop (off + 1)) (off + 1) (acc * 16 + (c.toNat - 87)) = hx st.data.toList 0 0 := by
                        have h2 := H2.out
                        have := hxc.out
                        simp only [if_neg e3] at h2
                        rw [if_neg (by omega)] at h2
                        exact h2
                      have FIN2 := Lib.hid fin2
                      clear fin2
                      go_wp2
                      first
                        | exact ⟨⟨off + 1, acc * 16 + (c.toNat - 87), by go_num, int_eq (by have := hxc.out; omega), by omega, by omega, by have := hxc.out; omega, by trivial, FIN2⟩, by simp [intOf]; omega⟩
                        | (refine ⟨⟨_, _, _, ?_, rfl, rfl, rfl⟩, by simp [intOf]; omega⟩
                           exact ⟨off + 1, by go_num, acc * 16 + (c.toNat - 87), int_eq (by have := hxc.out; omega), by omega, by omega, by have := hxc.out; omega, FIN2⟩)
                · obtain ⟨q1, q2⟩ := q
                  have h2 := h1.out
                  rw [show dig c.toNat = some (c.toNat - 55) from by have := hxc.out; unfold dig; rw [if_neg (by omega), if_neg (by omega), if_pos ⟨by omega, by omega⟩]] at h2
                  have H2 := Lib.hid h2
                  clear h1 h2
                  by_cases e3 : 3 < off
                  · have r0 : R = none := by
                      have h2 := H2.out
                      simp only [if_pos e3] at h2
                      rw [← H6.out, g6, ← h2]
                    have R0 := Lib.hid r0
                    clear r0
                    go_wp2
                    refine bodyPost_ret (by simp [results, Tryz.results86, go_sem, a0, a1, a2]; try rfl) rfl ?_
                    exact FIN.out R0.out _ _ ((((BLO.out bs).setCell (Nat.le_refl _) _).setCell (Nat.le_refl _) _).setCell (Nat.le_refl _) _)
                  · by_cases e4 : 65535 < (acc : Int) * 16 + (x - 65 + 10)
                    · have r0 : R = none := by
                        have h2 := H2.out
                        have := hxc.out
                        simp only [if_neg e3] at h2
                        rw [if_pos (by omega)] at h2
                        rw [← H6.out, g6, ← h2]
                      have R0 := Lib.hid r0
                      clear r0
                      go_wp2
                      refine bodyPost_ret (by simp [results, Tryz.results86, go_sem, a0, a1, a2]; try rfl) rfl ?_
                      exact FIN.out R0.out _ _ ((((BLO.out bs).setCell (Nat.le_refl _) _).setCell (Nat.le_refl _) _).setCell (Nat.le_refl _) _)
                    · have fin2 : hx (st.data.toList.drop (off + 1)) (off + 1) (acc * 16 + (c.toNat - 55)) = hx st.data.toList 0 0 := by
                        have h2 := H2.out
                        have := hxc.out
                        simp only [if_neg e3] at h2
                        rw [if_neg (by omega)] at h2
                        exact h2
                      have FIN2 := Lib.hid fin2
                      clear fin2
                      go_wp2
                      first
                        | exact ⟨⟨off + 1, acc * 16 + (c.toNat - 55), by go_num, int_eq (by have := hxc.out; omega), by omega, by omega, by have := hxc.out; omega, by trivial, FIN2⟩, by simp [intOf]; omega⟩
                        | (refine ⟨⟨_, _, _, ?_, rfl, rfl, rfl⟩, by simp [intOf]; omega⟩
                           exact ⟨off + 1, by go_num, acc * 16 + (c.toNat - 55), int_eq (by have := hxc.out; omega), by omega, by omega, by have := hxc.out; omega, FIN2⟩)
                · have dn : dig c.toNat = none := by
                    have := hxc.out
                    unfold dig
                    rw [if_neg (by omega), if_neg (by omega), if_neg (by omega)]
                  have h2 := h1.out
                  rw [dn] at h2
                  have H2 := Lib.hid h2
                  clear h1 h2 dn
                  go_wp2
                  go_meet
                  case rel => exact ⟨off, acc, rfl, rfl, by omega, hac, rfl, Lib.hid H2.out.symm⟩
                · obtain ⟨q1, q2⟩ := q
                  have dn : dig c.toNat = none := by
                    have := hxc.out
                    unfold dig
                    rw [if_neg (by omega), if_neg (by omega), if_neg (by omega)]
                  have h2 := h1.out
                  rw [dn] at h2
                  have H2 := Lib.hid h2
                  clear h1 h2 dn
                  go_wp2
                  go_meet
                  case rel => exact ⟨off, acc, rfl, rfl, by omega, hac, rfl, Lib.hid H2.out.symm⟩
                · obtain ⟨q1, q2⟩ := q
                  have dn : dig c.toNat = none := by
                    have := hxc.out
                    unfold dig
                    rw [if_neg (by omega), if_neg (by omega), if_neg (by omega)]
                  have h2 := h1.out
                  rw [dn] at h2
                  have H2 := Lib.hid h2
                  clear h1 h2 dn
                  go_wp2
                  go_meet
                  case rel => exact ⟨off, acc, rfl, rfl, by omega, hac, rfl, Lib.hid H2.out.symm⟩
                · have dn : dig c.toNat = none := by
                    have := hxc.out
                    unfold dig
                    rw [if_neg (by omega), if_neg (by omega), if_neg (by omega)]
                  have h2 := h1.out
                  rw [dn] at h2
                  have H2 := Lib.hid h2
                  clear h1 h2 dn
                  go_wp2
                  go_meet
                  case rel => exact ⟨off, acc, rfl, rfl, by omega, hac, rfl, Lib.hid H2.out.symm⟩
              · go_wp2
                go_meet
                case rel => exact ⟨off, acc, rfl, rfl, ho, hac, rfl, Lib.hid (by rw [← HX.out, List.drop_of_length_le (by simp; omega)]; rfl)⟩
          case rest =>
            obtain ⟨off, acc, rfl, rfl, ho, hac, rfl, HX⟩ := hcut
            by_cases o0 : off = 0
            · subst o0
              have r0 : R = none := by rw [← H6.out, g6, HX.out]; rfl
              have R0 := Lib.hid r0
              clear r0
              go_wp2
              refine bodyPost_ret (by simp [results, Tryz.results86, go_sem, a0, a1, a2]; try rfl) rfl ?_
              exact FIN.out R0.out _ _ ((((BLO.out bs).setCell (Nat.le_refl _) _).setCell (Nat.le_refl _) _).setCell (Nat.le_refl _) _)
            · have T0 : ((off : Int) == 0) = false := by simp; omega
              have h6 := H6.out
              rw [g6, HX.out] at h6
              simp only [if_neg o0] at h6
              have cp0 := put_cell (w := W0) (l := bs) (T := 28) hlt i (by omega)
              have cp1 := put_cell (w := W0) (l := bs) (T := 28) hlt (i + 1) (by omega)
              by_cases hoe : off = st.size
              · have hd : st.data.toList.drop off = [] := List.drop_of_length_le (by simp; omega)
                rw [hd] at h6
                have H7 := Lib.hid h6
                have hz0 : (st.extract off st.size).size = 0 := by simp; omega
                clear h6 hd
                go_upto_region 63 with fail
                rw [put_set hlt, put_set hlt]
                have A0' := A0.out ((bs.set i ((acc : Int) / 256)).set (i + 1) ((acc : Int) % 256))
                have A1' := A1.out ((bs.set i ((acc : Int) / 256)).set (i + 1) ((acc : Int) % 256))
                have A2' := A2.out ((bs.set i ((acc : Int) / 256)).set (i + 1) ((acc : Int) % 256))
                have FA' := FA.out ((bs.set i ((acc : Int) / 256)).set (i + 1) ((acc : Int) % 256))
                have BL' := Lib.hid (BLO.out ((bs.set i ((acc : Int) / 256)).set (i + 1) ((acc : Int) % 256)))
                have hbl' : ((bs.set i ((acc : Int) / 256)).set (i + 1) ((acc : Int) % 256)).length = 16 := by simp [hbl]
                by_cases hm0 : m = 0
                · have hi4 : i = 14 := by omega
                  subst hm0
                  have h7 := H7.out
                  simp only [if_true] at h7
                  rw [show ((acc / 256 : Nat) : Int) = (acc : Int) / 256 from by omega, show ((acc % 256 : Nat) : Int) = (acc : Int) % 256 from by omega, show 14 - 2 * 0 = i from by omega, show 15 - 2 * 0 = i + 1 from by omega] at h7
                  have hz : z = ⟨#[]⟩ := by
                    rcases HZ.out with h | h
                    · exact h
                    · rw [← h7] at h; cases h
                  subst hz
                  obtain ⟨r1, r2⟩ := HR.out _ h7.symm
                  have hR' : R.map (fun _ => (true, hi, lo)) = some (true, hi, lo) := by rw [← h7]; rfl
                  have FY := Lib.hid (show ∀ W', Below w.heap.size w W' → PostPA p4 p6 w (R.map fun _ => (true, hi, lo)) (.returned (.tuple #[.agg #[.int .u64 hi, .int .u64 lo, .pointer (some p6)], .nilIface])) W' from fun W' hb => by rw [hR']; exact ⟨hb, rfl⟩)
                  clear h7 hR' H7 cp0 cp1 a0 a1 a2 fA fB
                  generalize (bs.set i ((acc : Int) / 256)).set (i + 1) ((acc : Int) % 256) = bz at *
                  obtain ⟨b0, b1, b2, b3, b4, b5, b6, b7, b8, b9, b10, b11, b12, b13, b14, b15, rfl⟩ : ∃ b0 b1 b2 b3 b4 b5 b6 b7 b8 b9 b10 b11 b12 b13 b14 b15, bz = [b0, b1, b2, b3, b4, b5, b6, b7, b8, b9, b10, b11, b12, b13, b14, b15] := by
                    match bz, hbl' with
                    | [b0, b1, b2, b3, b4, b5, b6, b7, b8, b9, b10, b11, b12, b13, b14, b15], _ => exact ⟨b0, b1, b2, b3, b4, b5, b6, b7, b8, b9, b10, b11, b12, b13, b14, b15, rfl⟩
                  obtain ⟨-, C, -⟩ := put_rules (T := 28) hlt
                  have CA := Lib.hid (fun wx (hb : Below w.heap.size w wx) => addrFrom16 [b0, b1, b2, b3, b4, b5, b6, b7, b8, b9, b10, b11, b12, b13, b14, b15] rfl hi lo p4 p6 wx (HE.out.below hb) r1 r2)
                  have CW := Lib.hid (fun wx (hb : Below w.heap.size w wx) => withZone_none hi lo p4 p6 wx (HE.out.below hb))
                  have HA2 : (put W0 (w.heap.size + 1) [b0, b1, b2, b3, b4, b5, b6, b7, b8, b9, b10, b11, b12, b13, b14, b15] 28).heap[w.heap.size]? = some (.cells #[.int .u64 0, .int .u64 0, .pointer none] 102 (0, 0)) := HAA.out _
                  clear r1 r2
                  subst hi4
                  go_wp2_with fail
                  refine (CA.out _ BL'.out).mono ?_
                  rintro e w5 ⟨rfl, hb5⟩
                  have HB5 := Lib.hid (blw BL'.out hb5)
                  have HA5 := (hb5.block _ (blk_lt' HA2)).trans HA2
                  clear hb5 A0' A1' A2' FA' C
                  go_wp2_with fail
                  refine (CW.out _ HB5.out).mono ?_
                  rintro e w6 ⟨rfl, hb6⟩
                  have HB6 := Lib.hid (blw HB5.out hb6)
                  obtain ⟨k0, k1, k2, f0, f1, f2⟩ := three hb6 HA5
                  clear hb6 HA5 HA2
                  go_wp2
                  refine bodyPost_ret (by simp [results, Tryz.results86, go_sem, k0, k1, k2]; try rfl) rfl ?_
                  exact FY.out _ (((HB6.out.setCell (Nat.le_refl _) _).setCell (Nat.le_refl _) _).setCell (Nat.le_refl _) _)
                · have hi12 : i ≤ 12 := by omega
                  have r0 : R = none := by
                    have h7 := H7.out
                    simp only [if_neg hm0] at h7
                    exact h7.symm
                  have R0 := Lib.hid r0
                  clear r0 H7 cp0 cp1 a0 a1 a2 fA
                  go_wp2
                  refine bodyPost_ret (by simp [results, Tryz.results86, go_sem, A0', A1', A2']; try rfl) rfl ?_
                  exact FIN.out R0.out _ _ (((BL'.out.setCell (Nat.le_refl _) _).setCell (Nat.le_refl _) _).setCell (Nat.le_refl _) _)
              · obtain ⟨c, hc⟩ : ∃ c, st[off]'(by omega) = c := ⟨_, rfl⟩
                have hdr : st.data.toList.drop off = c :: st.data.toList.drop (off + 1) := by
                  rw [List.drop_eq_getElem_cons (by simp; omega), ← hc]; rfl
                rw [hdr] at h6
                have H7 := Lib.hid h6
                obtain ⟨x, hx'⟩ : ∃ x : Int, (c.toNat : Int) = x := ⟨_, rfl⟩
                have hxc := Lib.hid hx'
                have hlo : off < st.size := by omega
                replace hx' : ((st[off]'hlo).toNat : Int) = x := by rw [hc]; exact hx'
                have HD2 := Lib.hid hdr
                clear h6 hdr hc
                by_cases x46 : x = 46
                · have t46 : (x == 46) = true := by simp [x46]
                  have hi12 : ((i : Int) != 12) = true := by
                    have := HO.out.drop off
                    rw [HD2.out] at this
                    have := this.pt rfl (by have := hxc.out; omega)
                    simp
                    omega
                  have r0 : R = none := by rw [← H7.out]; simp only []; rw [if_neg (by have := hxc.out; omega)]
                  have R0 := Lib.hid r0
                  clear r0
                  go_wp2
                  refine bodyPost_ret (by simp [results, Tryz.results86, go_sem, a0, a1, a2]; try rfl) rfl ?_
                  exact FIN.out R0.out _ _ ((((BLO.out bs).setCell (Nat.le_refl _) _).setCell (Nat.le_refl _) _).setCell (Nat.le_refl _) _)
                · have t46 : (x == 46) = false := by simp [x46]
                  go_upto_region 51 with fail
                  rw [put_set hlt, put_set hlt]
                  obtain ⟨s2, hs2⟩ : ∃ s2, st.extract off st.size = s2 := ⟨_, rfl⟩
                  have hl2 : s2.data.toList = c :: st.data.toList.drop (off + 1) := by rw [← hs2, ex_list, HD2.out]
                  have hz2 : s2.size = st.size - off := by rw [← len_list, ← hs2, ex_list]; simp
                  have hz20 : 0 < s2.size := by omega
                  have HZ2 := Lib.hid hz2
                  clear hz2
                  have hx2 : ((s2[0]'hz20).toNat : Int) = x := by
                    have : s2.data.toList[0]'(by rw [hl2]; simp) = c := by simp [hl2]
                    rw [← hxc.out, ← this]
                    rfl
                  rw [hs2]
                  have HL2 := Lib.hid hl2
                  clear hs2 hl2
                  have A0' := A0.out ((bs.set i ((acc : Int) / 256)).set (i + 1) ((acc : Int) % 256))
                  have A1' := A1.out ((bs.set i ((acc : Int) / 256)).set (i + 1) ((acc : Int) % 256))
                  have A2' := A2.out ((bs.set i ((acc : Int) / 256)).set (i + 1) ((acc : Int) % 256))
                  have FA' := FA.out ((bs.set i ((acc : Int) / 256)).set (i + 1) ((acc : Int) % 256))
                  have BL' := Lib.hid (BLO.out ((bs.set i ((acc : Int) / 256)).set (i + 1) ((acc : Int) % 256)))
                  clear cp0 cp1 a0 a1 a2 fA fB hx' t46
                  by_cases x58 : x = 58
                  · have t58 : (x != 58) = false := by simp [x58]
                    have X58 := Lib.hid x58
                    clear x58 x46
                    by_cases hz1 : s2.size = 1
                    · have t1 : ((s2.size : Int) == 1) = true := by simp [hz1]
                      have r0 : R = none := by
                        have h7 := H7.out
                        simp only [] at h7
                        rw [if_pos (by have := X58.out; have := hxc.out; omega), if_pos (List.drop_of_length_le (by rw [len_list]; have := HZ2.out; omega))] at h7
                        exact h7.symm
                      have R0 := Lib.hid r0
                      clear r0 hz1
                      go_wp2
                      refine bodyPost_ret (by simp [results, Tryz.results86, go_sem, A0', A1', A2']; try rfl) rfl ?_
                      exact FIN.out R0.out _ _ (((BL'.out.setCell (Nat.le_refl _) _).setCell (Nat.le_refl _) _).setCell (Nat.le_refl _) _)
                    · have t1 : ((s2.size : Int) == 1) = false := by simp; omega
                      have hz3 : 2 ≤ s2.size := by omega
                      clear hz1
                      go_upto_region 57 with fail
                      obtain ⟨s3, hs3⟩ : ∃ s3, s2.extract 1 s2.size = s3 := ⟨_, rfl⟩
                      have hl3 : s3.data.toList = st.data.toList.drop (off + 1) := by rw [← hs3, ex_list, HL2.out]; rfl
                      have hz4 : s3.size = s2.size - 1 := by rw [← len_list, ← hs3, ex_list]; simp
                      have hz40 : 0 < s3.size := by omega
                      rw [hs3]
                      have HL3 := Lib.hid hl3
                      have HZ4 := Lib.hid hz4
                      clear hs3 hl3 hz4
                      obtain ⟨y, hy⟩ : ∃ y : Int, ((s3[0]'hz40).toNat : Int) = y := ⟨_, rfl⟩
                      have ty : (y == 58) = false := by
                        have hd := dbl_drop _ off HD.out
                        rw [HD2.out, ← HL3.out] at hd
                        have e : s3.data.toList = s3[0]'hz40 :: s3.data.toList.drop 1 := by
                          have := List.drop_eq_getElem_cons (l := s3.data.toList) (i := 0) (by rw [len_list]; exact hz40)
                          rw [List.drop_zero] at this
                          exact this
                        rw [e, dbl, Bool.or_eq_false_iff] at hd
                        have h1 := hd.1
                        have := X58.out
                        have := hxc.out
                        simp at h1 ⊢
                        have := h1 (by omega)
                        omega
                      have tz : ((s3.size : Int) == 0) = false := beq_eq_false_iff_ne.2 (by omega)
                      go_wp2
                      have hg : g6 m s3.data.toList ((bs.set i ((acc : Int) / 256)).set (i + 1) ((acc : Int) % 256)) = R := by
                        have h7 := H7.out
                        simp only [] at h7
                        rw [if_pos (by have := X58.out; have := hxc.out; omega), if_neg (by intro hh; have := congrArg List.length hh; rw [← HL3.out, len_list] at this; simp only [List.length_nil] at this; omega), ← HL3.out] at h7
                        rw [show ((acc / 256 : Nat) : Int) = (acc : Int) / 256 from by omega, show ((acc % 256 : Nat) : Int) = (acc : Int) % 256 from by omega, show 14 - 2 * m = i from by omega, show 15 - 2 * m = i + 1 from by omega] at h7
                        exact h7
                      have hok : Okp (i + 2) s3.data.toList := by
                        rw [HL3.out]
                        exact (HO.out.drop off).next HD2.out (by have := X58.out; have := hxc.out; omega)
                      have hdb : dbl s3.data.toList = false := by rw [HL3.out]; exact dbl_drop _ _ HD.out
                      first
                        | exact ⟨⟨s3, i + 2, m, (bs.set i ((acc : Int) / 256)).set (i + 1) ((acc : Int) % 256), rfl, by go_num, rfl, by omega, by have := HZ4.out; have := HZ2.out; omega, Or.inr hz40, by simp [hbl], by trivial, Lib.hid hdb, Lib.hid hok, Lib.hid hg⟩, by simp [intOf]; omega⟩
                        | (refine ⟨?_, by simp [intOf]; omega⟩
                           (repeat apply Exists.intro)
                           refine ⟨?_, rfl⟩
                           exact ⟨s3, i + 2, m, (bs.set i ((acc : Int) / 256)).set (i + 1) ((acc : Int) % 256), rfl, by go_num, rfl, by omega, by have := HZ4.out; have := HZ2.out; omega, Or.inr hz40, by simp [hbl], by trivial, Lib.hid hdb, Lib.hid hok, Lib.hid hg⟩)
                  · have t58 : (x != 58) = true := by simp [x58]
                    have r0 : R = none := by
                      have h7 := H7.out
                      simp only [] at h7
                      rw [if_neg (by have := hxc.out; omega)] at h7
                      exact h7.symm
                    have R0 := Lib.hid r0
                    clear r0 x58 x46
                    go_wp2
                    refine bodyPost_ret (by simp [results, Tryz.results86, go_sem, A0', A1', A2']; try rfl) rfl ?_
                    exact FIN.out R0.out _ _ (((BL'.out.setCell (Nat.le_refl _) _).setCell (Nat.le_refl _) _).setCell (Nat.le_refl _) _)
end Go.Proofs.YtpemdpfageikfaaGreatDoor.R
