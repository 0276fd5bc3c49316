/- ParseCIDR; the rules as they lie in memory; trimming. -/
import Derived.Test.YtpemdpfageikfaaGreatDoorZF
import Derived.Test.YtpemdpfageikfaaGreatDoorZQa
import Derived.Test.YtpemdpfageikfaaGreatDoorZQd
import Derived.Test.YtpemdpfageikfaaGreatDoorZD
set_option linter.unusedVariables false
set_option linter.unusedSimpArgs false
/- ParseCIDR, by what ParseAddr does. -/
namespace Go.Proofs.YtpemdpfageikfaaGreatDoor.R
open Go.RowKit Go.Proofs.YtpemdpfageikfaaGreatDoorW.PrintWords Go.Proofs.YtpemdpfageikfaaGreatDoorW.PrintLast Go.Proofs.YtpemdpfageikfaaGreatDoorW.PrintMore

theorem C_same {w W : World} {b o n : Nat} {l : List Int} (h : Kd.C (Kd.int .u8) w (some ⟨b, o, none⟩) n l) (hb : W.heap[b]? = w.heap[b]?) : Kd.C (Kd.int .u8) W (some ⟨b, o, none⟩) n l := by
  obtain ⟨h1, h2, h3⟩ := h
  refine ⟨h1, h2, fun h => ?_⟩
  obtain ⟨ad, he, hj⟩ := h3 h
  cases he
  refine ⟨_, rfl, fun j p hp => ?_⟩
  obtain ⟨cs, e1, e2, hc⟩ := hj j p hp
  refine ⟨cs, e1, e2, fun i u hi => ?_⟩
  rw [← hc i u hi, add_place]
  simp only [World.cell?, hb]
/-- A network as it lies in memory: the struct, its address's bytes, its mask's bytes. -/
structure CidrAt (w : World) (g b o c d L : Nat) (xs ms : List Int) : Prop where
  box : w.heap[g]? = some (.cells #[.slice (some ⟨b, o, none⟩) L c, .slice (some ⟨d, 0, none⟩) L L] 137 (0, 0))
  ip : Kd.C (Kd.int .u8) w (some ⟨b, o, none⟩) L xs
  mask : w.heap[d]? = some (.cells (nums .u8 ms).toArray 5 (0, 0))
  le : L ≤ c
  len : ms.length = L
theorem CidrAt.same {w W : World} {g b o c d L : Nat} {xs ms : List Int} (h : CidrAt w g b o c d L xs ms) (h1 : W.heap[g]? = w.heap[g]?) (h2 : W.heap[b]? = w.heap[b]?) (h3 : W.heap[d]? = w.heap[d]?) : CidrAt W g b o c d L xs ms :=
  ⟨h1.trans h.box, C_same h.ip h2, h3.trans h.mask, h.le, h.len⟩
def bitsOf (a : Bool × Int × Int) : Nat := bif a.1 then 128 else 32
def lenOf (a : Bool × Int × Int) : Nat := bif a.1 then 16 else 4
theorem bitLen_ad (a : Bool × Int × Int) (p4 p6 : Addr) (w : World) (hE : Env w p4 p6) :
    Calls Tryz.prog 75 #[.agg #[.int .u64 a.2.1, .int .u64 a.2.2, .pointer (some (bif a.1 then p6 else p4))]] w fun e w' => e = .returned (.int .i64 (bitsOf a)) ∧ Below w.heap.size w w' := by
  obtain ⟨v6, hi, lo⟩ := a
  cases v6
  · refine (bitLen_4 hi lo p4 p6 w hE).mono ?_
    rintro e w' ⟨rfl, rfl⟩
    exact ⟨rfl, by go_grown⟩
  · refine (bitLen_6 hi lo p4 p6 w hE).mono ?_
    rintro e w' ⟨rfl, rfl⟩
    exact ⟨rfl, by go_grown⟩
theorem cidrMask_ad (a : Bool × Int × Int) (n : Nat) (hn : n ≤ bitsOf a) (w : World) :
    Calls Tryz.prog 76 #[.int .i64 n, .int .i64 (bitsOf a)] w fun e w' => ∃ b, w.heap.size ≤ b ∧ e = .returned (.slice (some ⟨b, 0, none⟩) (lenOf a) (lenOf a)) ∧ w'.heap[b]? = some (.cells (nums .u8 (maskUpTo n (lenOf a) (lenOf a))).toArray 5 (0, 0)) ∧ Below w.heap.size w w' := by
  obtain ⟨v6, hi, lo⟩ := a
  cases v6
  · exact cidrMask_4 n hn w
  · exact cidrMask_16 n hn w

/-- IP.Mask, in whatever later world: its result lies in a block of its own. -/
theorem mask_at (W0 : World) (I d L k : Nat) (l ms xs : List Int) (hI : W0.heap[I]? = some (.cells (nums .u8 l).toArray 28 (0, 0))) (hl : l.length = 16) (hd : W0.heap[d]? = some (.cells (nums .u8 ms).toArray 5 (0, 0))) (hms : ms.length = L) (hm : Q.netcidr_IP_Mask.f k l ms = some xs) (hxs : xs.length = L) (hL : L = 4 ∨ L = 16) :
    ∀ W, Below W0.heap.size W0 W → Calls Tryz.prog 78 #[.slice (some ⟨I, 0, none⟩) 16 16, .slice (some ⟨d, 0, none⟩) L L] W fun e w' => ∃ b o c, e = .returned (.slice (some ⟨b, o, none⟩) L c) ∧ W.heap.size ≤ b ∧ L ≤ c ∧ Kd.C (Kd.int .u8) w' (some ⟨b, o, none⟩) L xs ∧ Below W.heap.size W w' := by
  intro W hW
  have v1 := V_block (w := W) 5 W.heap.size (fun _ => True) ((hW.block I (blk_lt' hI)).trans hI) trivial 0 16 16 (by omega) (by omega) (by omega)
  have v2 := V_block (w := W) 5 W.heap.size (fun _ => True) ((hW.block d (blk_lt' hd)).trans hd) trivial 0 L L (by omega) (by omega) (by omega)
  rw [List.drop_zero, List.take_of_length_le (by omega)] at v1 v2
  have := Q.netcidr_IP_Mask.calls k (fun _ => True) (some ⟨I, 0, none⟩) 16 l (fun _ => True) (some ⟨d, 0, none⟩) L ms xs W (by rw [hl]; exact v1) (by rw [hms]; exact v2) hm
  rw [hl, hms] at this
  refine this.mono ?_
  rintro e w' ⟨v, rfl, hv, hb⟩
  obtain ⟨ad, c, rfl⟩ := Kd.R_slice1 hv (by omega)
  obtain ⟨h1, h2, h3⟩ := Kd.R_reads' hv
  have hok := hv.1 ad.block rfl
  obtain ⟨b, o, sp⟩ := ad
  obtain rfl : sp = none := by
    obtain ⟨ad', he, hj⟩ := h3.2.2 (by omega)
    cases he
    obtain ⟨cs, e1, e2, hc⟩ := hj 0 (xs[0]'(by omega)) (by simp)
    have hcs : cs = [.int .u8 (xs[0]'(by omega))] := e2
    exact World.cell?_spot (hc 0 _ (by rw [hcs]; rfl))
  exact ⟨b, o, c, by rw [hxs], hok, by omega, by rw [hxs] at h3; exact h3, hb⟩
/-- A text that is no network. -/
def Fails (w : World) (e : Ending) (w' : World) : Prop := (∃ ev, e = .returned (.tuple #[.slice none 0 0, .pointer none, .iface 126 ev])) ∧ Below w.heap.size w w'
theorem ParseCIDR_nocut (s : ByteArray) (x y : ByteArray) (w : World) (k : Nat) (h : Q.netcidr_zzCut.f k s ⟨#[47]⟩ = some (x, y, false)) :
    Calls Tryz.prog 48 #[.string s] w (Fails w) := by
  have H := Lib.hid (Q.netcidr_zzCut.calls k s ⟨#[47]⟩ x y false w h)
  clear h
  go_enter Tryz.func48, Tryz.ntmps48
  go_wp2_with fail
  refine H.out.mono ?_
  rintro e w1 ⟨rfl, ⟨m, rfl⟩⟩
  go_wp2
  go_returns
  exact ⟨⟨_, rfl⟩, by (go_grown; exact pw_below_drewN (by go_grown) _)⟩
theorem ParseCIDR_noaddr (s : ByteArray) (x y : ByteArray) (p4 p6 : Addr) (w : World) (hE : Env w p4 p6) (k : Nat) (h : Q.netcidr_zzCut.f k s ⟨#[47]⟩ = some (x, y, true))
    (hPA : ∀ wx, Env wx p4 p6 → Calls Tryz.prog 53 #[.string x] wx (PostPA p4 p6 wx none)) :
    Calls Tryz.prog 48 #[.string s] w (Fails w) := by
  have H := Lib.hid (Q.netcidr_zzCut.calls k s ⟨#[47]⟩ x y true w h)
  have HE := Lib.hid (fun wx (hb : Below w.heap.size w wx) => hE.below hb)
  have HP := Lib.hid hPA
  clear h hE hPA
  go_enter Tryz.func48, Tryz.ntmps48
  go_wp2_with fail
  refine H.out.mono ?_
  rintro e w1 ⟨rfl, ⟨m, rfl⟩⟩
  have HB0 := Lib.hid (pw_below_drewN (Below.refl w.heap.size w) m)
  generalize w.drewN m = w1 at HB0 ⊢
  go_wp2_with fail
  refine (HP.out _ (HE.out _ HB0.out)).mono ?_
  rintro e w2 ⟨hb, ev, rfl⟩
  have HB1 := Lib.hid (blw HB0.out hb)
  clear hb
  go_wp2
  go_returns
  exact ⟨⟨_, rfl⟩, below_alloc (below_alloc HB1.out _) _⟩
set_option maxHeartbeats 1000000 in
theorem ParseCIDR_nonum (s : ByteArray) (x y : ByteArray) (a : Bool × Int × Int) (r1 r2 : Int) (r3 : Bool) (p4 p6 : Addr) (w : World) (hE : Env w p4 p6) (k : Nat) (h : Q.netcidr_zzCut.f k s ⟨#[47]⟩ = some (x, y, true))
    (hPA : ∀ wx, Env wx p4 p6 → Calls Tryz.prog 53 #[.string x] wx (PostPA p4 p6 wx (some a))) (hd : Q.netcidr_dtoi.f k y = some (r1, r2, r3)) (hbad : r3 = false ∨ (r3 = true ∧ r2 ≠ y.size) ∨ (r3 = true ∧ r2 = y.size ∧ 0 ≤ r1 ∧ (bitsOf a : Int) < r1)) :
    Calls Tryz.prog 48 #[.string s] w (Fails w) := by
  have H := Lib.hid (Q.netcidr_zzCut.calls k s ⟨#[47]⟩ x y true w h)
  have HE := Lib.hid (fun wx (hb : Below w.heap.size w wx) => hE.below hb)
  have HP := Lib.hid hPA
  have HZ := Lib.hid (fun wx hb => zone_ad a p4 p6 wx (HE.out wx hb))
  have HL := Lib.hid (fun wx hb => bitLen_ad a p4 p6 wx (HE.out wx hb))
  have HD := Lib.hid (fun wx => Q.netcidr_dtoi.calls k y r1 r2 r3 wx hd)
  clear h hE hPA hd
  go_enter Tryz.func48, Tryz.ntmps48
  go_wp2_with fail
  refine H.out.mono ?_
  rintro e w1 ⟨rfl, ⟨m, rfl⟩⟩
  have HB0 := Lib.hid (pw_below_drewN (Below.refl w.heap.size w) m)
  generalize w.drewN m = w1 at HB0 ⊢
  go_wp2_with fail
  refine (HP.out _ (HE.out _ HB0.out)).mono ?_
  rintro e w2 ⟨hb, rfl⟩
  have HB1 := Lib.hid (blw HB0.out hb)
  clear hb
  unfold adVal
  go_wp2_with fail
  refine (HZ.out _ (below_alloc HB1.out _)).mono ?_
  rintro e w3 ⟨rfl, hb⟩
  have HB2 := Lib.hid (blw (below_alloc HB1.out _) hb)
  obtain ⟨A, hA⟩ : ∃ A, A = w2.heap.size := ⟨_, rfl⟩
  have hA3 : w3.heap[A]? = some (.cells #[.int .u64 a.2.1, .int .u64 a.2.2, .pointer (some (bif a.1 then p6 else p4))] 102 (0, 0)) := by subst hA; exact (hb.block _ (by simp)).trans (heap_new _ _)
  rw [← hA]
  have HA3 := Lib.hid hA3
  clear hA hb hA3
  go_wp2_with fail
  refine (HD.out _).mono ?_
  rintro e w4 ⟨rfl, ⟨m4, rfl⟩⟩
  have HB4 := Lib.hid (pw_below_drewN HB2.out m4)
  have HA4 := Lib.hid (((pw_below_drewN (Below.refl w3.heap.size w3) m4).block A (blk_lt' HA3.out)).trans HA3.out)
  generalize w3.drewN m4 = w4 at HB4 HA4 ⊢
  clear HA3 HB2
  obtain ⟨k0, k1, k2, -⟩ := three (Below.refl _ _) HA4.out
  rcases hbad with rfl | ⟨rfl, hb⟩ | ⟨rfl, rfl, hb, hc⟩
  · go_wp2
    go_returns
    exact ⟨⟨_, rfl⟩, below_alloc HB4.out _⟩
  · have t1 : (r2 != (y.size : Int)) = true := by simpa using hb
    clear hb
    go_wp2
    go_returns
    exact ⟨⟨_, rfl⟩, below_alloc HB4.out _⟩
  · go_wp2_with fail
    refine (HL.out _ HB4.out).mono ?_
    rintro e w5 ⟨rfl, hb5⟩
    have HB5 := Lib.hid (blw HB4.out hb5)
    clear hb5
    go_wp2
    go_returns
    exact ⟨⟨_, rfl⟩, below_alloc HB5.out _⟩
set_option maxHeartbeats 4000000 in
theorem ParseCIDR_yes (s : ByteArray) (x y : ByteArray) (a : Bool × Int × Int) (n : Nat) (p4 p6 : Addr) (w : World) (hE : Env w p4 p6) (k : Nat) (h : Q.netcidr_zzCut.f k s ⟨#[47]⟩ = some (x, y, true)) (h1 : In64 a.2.1) (h2 : In64 a.2.2)
    (hPA : ∀ wx, Env wx p4 p6 → Calls Tryz.prog 53 #[.string x] wx (PostPA p4 p6 wx (some a))) (hd0 : Q.netcidr_dtoi.f k y = some ((n : Int), (y.size : Int), true)) (hn : n ≤ bitsOf a) (xs : List Int) (hm : Q.netcidr_IP_Mask.f k (b16 a) (maskUpTo n (lenOf a) (lenOf a)) = some xs) (hxs : xs.length = lenOf a) :
    Calls Tryz.prog 48 #[.string s] w fun e w' => ∃ u g b o c d, e = .returned (.tuple #[u, .pointer (some ⟨g, 0, none⟩), .nilIface]) ∧ Below w.heap.size w w' ∧ w.heap.size ≤ g ∧ w.heap.size ≤ b ∧ w.heap.size ≤ d ∧ CidrAt w' g b o c d (lenOf a) xs (maskUpTo n (lenOf a) (lenOf a)) := by
  have H := Lib.hid (Q.netcidr_zzCut.calls k s ⟨#[47]⟩ x y true w h)
  have HE := Lib.hid (fun wx (hb : Below w.heap.size w wx) => hE.below hb)
  have HP := Lib.hid hPA
  have HZ := Lib.hid (fun wx hb => zone_ad a p4 p6 wx (HE.out wx hb))
  have HL := Lib.hid (fun wx hb => bitLen_ad a p4 p6 wx (HE.out wx hb))
  have HD := Lib.hid (fun wx => Q.netcidr_dtoi.calls k y (n : Int) (y.size : Int) true wx hd0)
  obtain ⟨b0, b1, b2, b3, b4, b5, b6, b7, b8, b9, b10, b11, b12, b13, b14, b15, h16, -⟩ := as16_ad a p4 w h1 h2
  have HA := Lib.hid (fun wx => as16 a.2.1 a.2.2 (bif a.1 then p6 else p4) wx h1.1 h1.2 h2.1 h2.2)
  have H16 := Lib.hid h16
  have HM := Lib.hid hm
  have HX := Lib.hid hxs
  have HN := Lib.hid hn
  have HC := Lib.hid (cidrMask_ad a n hn)
  have H0 : Hid (lenOf a = 4 ∨ lenOf a = 16) := Lib.hid (by cases h : a.1 <;> simp [lenOf, h])
  have hn0 : (0 : Int) ≤ (n : Int) := by omega
  clear h hE hPA hd0 h1 h2 h16 hm hxs hn
  go_enter Tryz.func48, Tryz.ntmps48
  go_wp2_with fail
  refine H.out.mono ?_
  rintro e w1 ⟨rfl, ⟨m, rfl⟩⟩
  have HB0 := Lib.hid (pw_below_drewN (Below.refl w.heap.size w) m)
  generalize w.drewN m = w1 at HB0 ⊢
  go_wp2_with fail
  refine (HP.out _ (HE.out _ HB0.out)).mono ?_
  rintro e w2 ⟨hb, rfl⟩
  have HB1 := Lib.hid (blw HB0.out hb)
  clear hb
  unfold adVal
  go_wp2_with fail
  refine (HZ.out _ (below_alloc HB1.out _)).mono ?_
  rintro e w3 ⟨rfl, hb⟩
  have HB2 := Lib.hid (blw (below_alloc HB1.out _) hb)
  obtain ⟨A, hA⟩ : ∃ A, A = w2.heap.size := ⟨_, rfl⟩
  have hA3 : w3.heap[A]? = some (.cells #[.int .u64 a.2.1, .int .u64 a.2.2, .pointer (some (bif a.1 then p6 else p4))] 102 (0, 0)) := by subst hA; exact (hb.block _ (by simp)).trans (heap_new _ _)
  rw [← hA]
  have HA3 := Lib.hid hA3
  clear hA hb hA3
  go_wp2_with fail
  refine (HD.out _).mono ?_
  rintro e w4 ⟨rfl, ⟨m4, rfl⟩⟩
  have HB4 := Lib.hid (pw_below_drewN HB2.out m4)
  have HA4 := Lib.hid (((pw_below_drewN (Below.refl w3.heap.size w3) m4).block A (blk_lt' HA3.out)).trans HA3.out)
  generalize w3.drewN m4 = w4 at HB4 HA4 ⊢
  clear HA3 HB2
  obtain ⟨k0, k1, k2, -⟩ := three (Below.refl _ _) HA4.out
  have hnb : ¬ ((bitsOf a : Nat) : Int) < (n : Int) := by have := HN.out; omega
  go_wp2_with fail
  refine (HL.out _ HB4.out).mono ?_
  rintro e w5 ⟨rfl, hb5⟩
  have HB5 := Lib.hid (blw HB4.out hb5)
  have HA5 := Lib.hid ((hb5.block A (blk_lt' HA4.out)).trans HA4.out)
  clear hb5 HA4 HB4 k0 k1 k2
  obtain ⟨k0, k1, k2, -⟩ := three (Below.refl _ _) HA5.out
  go_wp2_with fail
  refine (HL.out _ HB5.out).mono ?_
  rintro e w6 ⟨rfl, hb6⟩
  have HB6 := Lib.hid (blw HB5.out hb6)
  have HA6 := Lib.hid ((hb6.block A (blk_lt' HA5.out)).trans HA5.out)
  clear hb6 HA5 HB5 k0 k1 k2
  go_wp2_with fail
  refine (HC.out _).mono ?_
  rintro e w7 ⟨d, hd6, rfl, hd7, hb7⟩
  have HB7 := Lib.hid (blw HB6.out hb7)
  have HA7 := Lib.hid ((hb7.block A (blk_lt' HA6.out)).trans HA6.out)
  have HDd := Lib.hid (Nat.le_trans HB6.out.size hd6)
  have HD7 := Lib.hid hd7
  clear hb7 HA6 HB6 hd6 hd7
  obtain ⟨k0, k1, k2, -⟩ := three (Below.refl _ _) HA7.out
  go_wp2_with fail
  refine (HA.out _).mono ?_
  rintro e w8 ⟨rfl, hb8⟩
  have HB8 := Lib.hid (blw HB7.out hb8)
  have HD8 := Lib.hid ((hb8.block d (blk_lt' HD7.out)).trans HD7.out)
  clear hb8 HA7 HB7 HD7 k0 k1 k2
  rw [show bytes64 a.2.1 ++ bytes64 a.2.2 = b16 a from rfl, H16.out, show (nums .u8 [b0, b1, b2, b3, b4, b5, b6, b7, b8, b9, b10, b11, b12, b13, b14, b15]).toArray = #[.int .u8 b0, .int .u8 b1, .int .u8 b2, .int .u8 b3, .int .u8 b4, .int .u8 b5, .int .u8 b6, .int .u8 b7, .int .u8 b8, .int .u8 b9, .int .u8 b10, .int .u8 b11, .int .u8 b12, .int .u8 b13, .int .u8 b14, .int .u8 b15] from rfl]
  go_upto_region 12 with fail
  have HB9 := Lib.hid (below_alloc HB8.out (.cells #[.int .u8 b0, .int .u8 b1, .int .u8 b2, .int .u8 b3, .int .u8 b4, .int .u8 b5, .int .u8 b6, .int .u8 b7, .int .u8 b8, .int .u8 b9, .int .u8 b10, .int .u8 b11, .int .u8 b12, .int .u8 b13, .int .u8 b14, .int .u8 b15] 28))
  have HD9 := Lib.hid ((heap_old w8 (.cells #[.int .u8 b0, .int .u8 b1, .int .u8 b2, .int .u8 b3, .int .u8 b4, .int .u8 b5, .int .u8 b6, .int .u8 b7, .int .u8 b8, .int .u8 b9, .int .u8 b10, .int .u8 b11, .int .u8 b12, .int .u8 b13, .int .u8 b14, .int .u8 b15] 28) d (blk_lt' HD8.out)).trans HD8.out)
  have HI9 := Lib.hid (heap_new w8 (.cells #[.int .u8 b0, .int .u8 b1, .int .u8 b2, .int .u8 b3, .int .u8 b4, .int .u8 b5, .int .u8 b6, .int .u8 b7, .int .u8 b8, .int .u8 b9, .int .u8 b10, .int .u8 b11, .int .u8 b12, .int .u8 b13, .int .u8 b14, .int .u8 b15] 28))
  obtain ⟨I, hI⟩ : ∃ I, I = w8.heap.size := ⟨_, rfl⟩
  rw [← hI] at HI9 ⊢
  generalize w8.alloc (.cells #[.int .u8 b0, .int .u8 b1, .int .u8 b2, .int .u8 b3, .int .u8 b4, .int .u8 b5, .int .u8 b6, .int .u8 b7, .int .u8 b8, .int .u8 b9, .int .u8 b10, .int .u8 b11, .int .u8 b12, .int .u8 b13, .int .u8 b14, .int .u8 b15] 28) = W at HB9 HD9 HI9 ⊢
  clear HB8 HD8 hI
  have HMS := Lib.hid (mask_at W I d (lenOf a) k (b16 a) _ xs (by rw [H16.out]; exact HI9.out) (by rw [H16.out]; rfl) HD9.out (by simp [maskUpTo]) HM.out HX.out H0.out)
  clear H HE HP HZ HL HD HA HC HB0 HB1
  go_region_with (first | (go_at_call 78; (with_reducible refine (HMS.out _ ?_).mono ?_); (repeat (first | exact Below.refl _ _ | apply below_drew | apply pw_below_drewN)); rintro e w9 ⟨b, o, c, rfl, hb9, hlc, hC9, hbw⟩))
  all_goals
    go_wp2
    go_returns
    have hB := blw (below_drew HB9.out) hbw
    have hD : w9.heap[d]? = some (.cells (nums .u8 (maskUpTo n (lenOf a) (lenOf a))).toArray 5 (0, 0)) := (hbw.block d (blk_lt' HD9.out)).trans HD9.out
    exact ⟨_, w9.heap.size, b, o, c, d, rfl, below_alloc hB _, hB.size, Nat.le_trans HB9.out.size hb9, HDd.out, heap_new _ _, Kd.C_below hC9 (below_alloc (Below.refl _ _) _), (heap_old _ _ d (blk_lt' hD)).trans hD, hlc, by simp [maskUpTo]⟩
end Go.Proofs.YtpemdpfageikfaaGreatDoor.R
/- parseProxy of the empty text, idnaASCII; the rules as they lie in memory. -/
namespace Go.Proofs.YtpemdpfageikfaaGreatDoor.R
open Go.RowKit Go.Proofs.YtpemdpfageikfaaGreatDoorW.PrintWords Go.Proofs.YtpemdpfageikfaaGreatDoorW.PrintLast Go.Proofs.YtpemdpfageikfaaGreatDoorW.PrintMore

theorem parseProxy_none (w : World) : Calls Tryz.prog 44 #[.string ⟨#[]⟩] w fun e w' => e = .returned (.tuple #[.pointer none, .nilIface]) ∧ w = w' := by
  go_enter Tryz.func44, Tryz.ntmps44
  go_wp2
  go_returns
  exact ⟨rfl, rfl⟩
/-- A text of ASCII. -/
def Asc (s : ByteArray) : Prop := ∀ (j : Nat) (b : UInt8), s.data.toList[j]? = some b → b.toNat < 128
theorem isASCII_l (s : ByteArray) (hs : s.size ≤ 140737488351232) (ha : Asc s) (d : Nat) : ∀ (k : Nat) (i : Int), 0 ≤ i → i ≤ s.size → (s.size : Int) - i = d → d < k → Q.httpproxy_isASCII.l0 k s i = some true := by
  induction d with
  | zero =>
    intro k i h0 h1 hd hk
    obtain ⟨k, rfl⟩ : ∃ m, k = m + 1 := ⟨k - 1, by omega⟩
    simp only [Q.httpproxy_isASCII.l0]
    rw [if_neg (by omega)]
  | succ d ih =>
    intro k i h0 h1 hd hk
    obtain ⟨k, rfl⟩ : ∃ m, k = m + 1 := ⟨k - 1, by omega⟩
    have hi : i.toNat < s.size := by omega
    have hb : bt s i < 128 := by
      have := ha i.toNat s[i.toNat] (by rw [List.getElem?_eq_getElem (by simpa using hi)]; rfl)
      rw [← bt_at s i hi]
      omega
    simp only [Q.httpproxy_isASCII.l0]
    rw [if_pos (by omega), if_pos h0, if_neg (by omega)]
    rw [show wrap64 (i + 1) = i + 1 from by unfold wrap64; omega]
    exact ih k (i + 1) (by omega) (by omega) (by omega) (by omega)
theorem idna (s : ByteArray) (w : World) (hs : s.size ≤ 140737488351232) (ha : Asc s) : Calls Tryz.prog 52 #[.string s] w fun e w' => e = .returned (.tuple #[.string s, .nilIface]) ∧ Below w.heap.size w w' := by
  have C := Lib.hid (fun wx => Q.httpproxy_isASCII.calls (s.size + 1) s true wx (by unfold Q.httpproxy_isASCII.f; exact isASCII_l s hs ha s.size _ 0 (by omega) (by omega) (by omega) (by omega)))
  clear ha
  go_enter Tryz.func52, Tryz.ntmps52
  go_wp2_with (go_at_call 84; refine (C.out _).mono ?_; rintro e w1 ⟨rfl, ⟨m, rfl⟩⟩)
  go_returns
  exact ⟨rfl, pw_below_drewN (Below.refl _ _) _⟩
/-- Two lists, one by one. -/
inductive All2 {α β : Type} (P : α → β → Prop) : List α → List β → Prop
  | nil : All2 P [] []
  | cons {a : α} {b : β} {xs : List α} {ys : List β} (h : P a b) (t : All2 P xs ys) : All2 P (a :: xs) (b :: ys)
theorem All2.snoc {α β : Type} {P : α → β → Prop} {xs : List α} {ys : List β} (h : All2 P xs ys) {a : α} {b : β} (hp : P a b) : All2 P (xs ++ [a]) (ys ++ [b]) := by
  induction h with
  | nil => exact .cons hp .nil
  | cons h1 _ ih => exact .cons h1 ih
theorem All2.len {α β : Type} {P : α → β → Prop} {xs : List α} {ys : List β} (h : All2 P xs ys) : xs.length = ys.length := by
  induction h with
  | nil => rfl
  | cons _ _ ih => simp [ih]
theorem All2.get {α β : Type} {P : α → β → Prop} {xs : List α} {ys : List β} (h : All2 P xs ys) : ∀ j (h1 : j < xs.length) (h2 : j < ys.length), P xs[j] ys[j] := by
  induction h with
  | nil => intro j h1; simp at h1
  | cons hp _ ih =>
    intro j h1 h2
    cases j with
    | zero => exact hp
    | succ j => exact ih j (by simpa using h1) (by simpa using h2)
/-- One rule of the list. -/
inductive Mt where
  | all
  | cidr (L : Nat) (xs ms : List Int)
  | ip (l : List Int) (p : ByteArray)
  | dom (h p : ByteArray) (mh : Bool)
/-- The rule as it lies in memory; ok: which blocks it may lie in. -/
def MtAt (w : World) (ok : Nat → Prop) : Mt → Value → Prop
  | .all, v => v = .iface 79 (.agg #[])
  | .dom h p mh, v => v = .iface 94 (.agg #[.string h, .string p, .bool mh])
  | .ip l p, v => ∃ b, ok b ∧ v = .iface 90 (.agg #[.slice (some ⟨b, 0, none⟩) 16 16, .string p]) ∧ w.heap[b]? = some (.cells (nums .u8 l).toArray 28 (0, 0))
  | .cidr L xs ms, v => ∃ g b o c d, ok g ∧ ok b ∧ ok d ∧ 0 < L ∧ v = .iface 85 (.agg #[.pointer (some ⟨g, 0, none⟩)]) ∧ CidrAt w g b o c d L xs ms
theorem MtAt.keep {w W : World} {ok ok' : Nat → Prop} {m : Mt} {v : Value} (h : MtAt w ok m v) (hk : ∀ k, ok k → k < w.heap.size → W.heap[k]? = w.heap[k]?) (hi : ∀ k, ok k → k < w.heap.size → ok' k) : MtAt W ok' m v := by
  cases m with
  | all => exact h
  | dom h0 p mh => exact h
  | ip l p =>
    obtain ⟨b, ho, rfl, hb⟩ := h
    exact ⟨b, hi b ho (blk_lt' hb), rfl, (hk b ho (blk_lt' hb)).trans hb⟩
  | cidr L xs ms =>
    obtain ⟨g, b, o, c, d, h1, h2, h3, hp, rfl, hc⟩ := h
    have lg := blk_lt' hc.box
    have lb : b < w.heap.size := World.block_lt_of_cell? w _ (C_cell hc.ip 0 hp)
    have ld := blk_lt' hc.mask
    exact ⟨g, b, o, c, d, hi g h1 lg, hi b h2 lb, hi d h3 ld, hp, rfl, hc.same (hk g h1 lg) (hk b h2 lb) (hk d h3 ld)⟩
theorem all_keep {w W : World} {ok ok' : Nat → Prop} {ms : List Mt} {vs : List Value} (h : All2 (MtAt w ok) ms vs) (hk : ∀ k, ok k → k < w.heap.size → W.heap[k]? = w.heap[k]?) (hi : ∀ k, ok k → k < w.heap.size → ok' k) : All2 (MtAt W ok') ms vs := by
  induction h with
  | nil => exact .nil
  | cons h1 _ ih => exact .cons (h1.keep hk hi) ih
/-- A slice of rules of the call's own. -/
def Rows (w : World) (base : Nat) (ok : Nat → Prop) (v : Value) (ms : List Mt) : Prop := ∃ vs, w.ownsRow base 107 1 v ms.length vs ∧ All2 (MtAt w ok) ms vs
/-- The blocks that neither the two slices nor the struct lie in. -/
def Oth (cb : Nat) (vI vD : Value) (k : Nat) : Prop := k ≠ cb ∧ some k ≠ vI.ownBlock ∧ some k ≠ vD.ownBlock
/-- The struct config. -/
def CbAt (w : World) (cb : Nat) (no : ByteArray) (vI vD : Value) : Prop := w.heap[cb]? = some (.cells #[.string ⟨#[]⟩, .string ⟨#[]⟩, .string no, .bool false, .pointer none, .pointer none, vI, vD] 62 (0, 0))
/-- The state ahead of an entry. -/
structure St (w : World) (base cb : Nat) (no : ByteArray) (vI vD : Value) (is ds : List Mt) : Prop where
  cbl : cb < base
  bl : base ≤ w.heap.size
  at_ : CbAt w cb no vI vD
  ri : Rows w base (Oth cb vI vD) vI is
  rd : Rows w base (Oth cb vI vD) vD ds
  apart : vI.ownBlock = none ∨ vI.ownBlock ≠ vD.ownBlock
theorem Rows.lt {w : World} {base : Nat} {ok : Nat → Prop} {v : Value} {ms : List Mt} (h : Rows w base ok v ms) : ∀ k, v.ownBlock = some k → base ≤ k ∧ k < w.heap.size := by
  obtain ⟨vs, h, -⟩ := h
  exact h.lt
theorem Rows.below {w W : World} {base : Nat} {ok : Nat → Prop} {v : Value} {ms : List Mt} (h : Rows w base ok v ms) (hb : Below w.heap.size w W) : Rows W base ok v ms := by
  obtain ⟨vs, h1, h2⟩ := h
  refine ⟨vs, ?_, all_keep h2 (fun k _ hk => hb.block k hk) (fun k hk _ => hk)⟩
  refine ⟨h1.1, ?_⟩
  rcases h1.2 with h | ⟨g, cap, cur, e, hg, hh, hr⟩
  · exact Or.inl h
  · exact Or.inr ⟨g, cap, cur, e, hg, (hb.block g (blk_lt' hh)).trans hh, hr⟩
theorem St.below {w W : World} {base cb : Nat} {no : ByteArray} {vI vD : Value} {is ds : List Mt} (h : St w base cb no vI vD is ds) (hb : Below w.heap.size w W) : St W base cb no vI vD is ds :=
  ⟨h.cbl, Nat.le_trans h.bl hb.size, (hb.block cb (blk_lt' h.at_)).trans h.at_, h.ri.below hb, h.rd.below hb, h.apart⟩
end Go.Proofs.YtpemdpfageikfaaGreatDoor.R
/- A rule is put behind the others; what an entry of the list is. -/
namespace Go.Proofs.YtpemdpfageikfaaGreatDoor.R
open Go.RowKit Go.Proofs.YtpemdpfageikfaaGreatDoorW.PrintWords Go.Proofs.YtpemdpfageikfaaGreatDoorW.PrintLast Go.Proofs.YtpemdpfageikfaaGreatDoorW.PrintMore

theorem setCell_heap_ne {w : World} {b k : Nat} {v : Value} {j : Nat} (h : j ≠ b) : (w.setCell ⟨b, k, none⟩ v).heap[j]? = w.heap[j]? := by
  simp [World.setCell, Array.getElem?_modify, Ne.symm h]
theorem owns_same {w W : World} {base n : Nat} {v : Value} {vs : List Value} (h : w.ownsRow base 107 1 v n vs) (hk : ∀ k, v.ownBlock = some k → W.heap[k]? = w.heap[k]?) : W.ownsRow base 107 1 v n vs := by
  refine ⟨h.1, ?_⟩
  rcases h.2 with h | ⟨g, cap, cur, rfl, hg, hh, hr⟩
  · exact Or.inl h
  · exact Or.inr ⟨g, cap, cur, rfl, hg, (hk g rfl).trans hh, hr⟩
section
variable {w w1 : World} {base cb : Nat} {no : ByteArray} {vI vD v1 v : Value} {is ds : List Mt} {m : Mt} {vs : List Value}
theorem St.addI (h : St w base cb no vI vD is ds) (hm : MtAt w (Oth cb vI vD) m v) (hall : All2 (MtAt w (Oth cb vI vD)) is vs) (hown : w1.ownsRow base 107 1 v1 (is.length + 1) (vs ++ [v])) (hg : w.grownBy w1 vI.ownBlock) (hloc : v1.ownBlock = vI.ownBlock ∨ v1.ownBlock = some w.heap.size) :
    St (w1.setCell ⟨cb, 6, none⟩ v1) base cb no v1 vD (is ++ [m]) ds := by
  have hcs := blk_lt' h.at_
  have hci : some cb ≠ vI.ownBlock := fun e => by have := (h.ri.lt cb e.symm).1; have := h.cbl; omega
  have hcell : (w1.setCell ⟨cb, 6, none⟩ v1).heap[cb]? = some (.cells #[.string ⟨#[]⟩, .string ⟨#[]⟩, .string no, .bool false, .pointer none, .pointer none, v1, vD] 62 (0, 0)) := by
    rw [heap_setCell_same ((hg.block cb hcs hci).trans h.at_)]
    rfl
  have hko : ∀ k, Oth cb vI vD k → k < w.heap.size → (w1.setCell ⟨cb, 6, none⟩ v1).heap[k]? = w.heap[k]? := fun k ho hk => by
    rw [setCell_heap_ne ho.1]; exact hg.block k hk ho.2.1
  have hio : ∀ k, Oth cb vI vD k → k < w.heap.size → Oth cb v1 vD k := fun k ho hk => by
    refine ⟨ho.1, ?_, ho.2.2⟩
    rcases hloc with e | e
    · rw [e]; exact ho.2.1
    · rw [e]; intro e'; cases e'; omega
  refine ⟨h.cbl, Nat.le_trans h.bl (by simp only [World.setCell, Array.size_modify]; exact hg.size), hcell, ?_, ?_, ?_⟩
  · refine ⟨vs ++ [v], ?_, (all_keep hall hko hio).snoc (hm.keep hko hio)⟩
    rw [show (is ++ [m]).length = is.length + 1 from by simp]
    refine owns_same hown fun k hk => setCell_heap_ne ?_
    have := (hown.lt k hk).1
    have := h.cbl
    omega
  · obtain ⟨us, h1, h2⟩ := h.rd
    refine ⟨us, owns_same h1 fun k hk => ?_, all_keep h2 hko hio⟩
    have hk2 := h1.lt k hk
    rw [setCell_heap_ne (by have := h.cbl; omega)]
    refine hg.block k hk2.2 fun e => ?_
    rcases h.apart with h3 | h3
    · rw [h3] at e; cases e
    · exact h3 (by rw [← e, hk])
  · rcases hloc with e | e
    · rw [e]; exact h.apart
    · right
      intro e'
      rw [e] at e'
      have := (h.rd.lt _ e'.symm).2
      omega
theorem St.addD (h : St w base cb no vI vD is ds) (hm : MtAt w (Oth cb vI vD) m v) (hall : All2 (MtAt w (Oth cb vI vD)) ds vs) (hown : w1.ownsRow base 107 1 v1 (ds.length + 1) (vs ++ [v])) (hg : w.grownBy w1 vD.ownBlock) (hloc : v1.ownBlock = vD.ownBlock ∨ v1.ownBlock = some w.heap.size) :
    St (w1.setCell ⟨cb, 7, none⟩ v1) base cb no vI v1 is (ds ++ [m]) := by
  have hcs := blk_lt' h.at_
  have hci : some cb ≠ vD.ownBlock := fun e => by have := (h.rd.lt cb e.symm).1; have := h.cbl; omega
  have hcell : (w1.setCell ⟨cb, 7, none⟩ v1).heap[cb]? = some (.cells #[.string ⟨#[]⟩, .string ⟨#[]⟩, .string no, .bool false, .pointer none, .pointer none, vI, v1] 62 (0, 0)) := by
    rw [heap_setCell_same ((hg.block cb hcs hci).trans h.at_)]
    rfl
  have hko : ∀ k, Oth cb vI vD k → k < w.heap.size → (w1.setCell ⟨cb, 7, none⟩ v1).heap[k]? = w.heap[k]? := fun k ho hk => by
    rw [setCell_heap_ne ho.1]; exact hg.block k hk ho.2.2
  have hio : ∀ k, Oth cb vI vD k → k < w.heap.size → Oth cb vI v1 k := fun k ho hk => by
    refine ⟨ho.1, ho.2.1, ?_⟩
    rcases hloc with e | e
    · rw [e]; exact ho.2.2
    · rw [e]; intro e'; cases e'; omega
  refine ⟨h.cbl, Nat.le_trans h.bl (by simp only [World.setCell, Array.size_modify]; exact hg.size), hcell, ?_, ?_, ?_⟩
  · obtain ⟨us, h1, h2⟩ := h.ri
    refine ⟨us, owns_same h1 fun k hk => ?_, all_keep h2 hko hio⟩
    have hk2 := h1.lt k hk
    rw [setCell_heap_ne (by have := h.cbl; omega)]
    refine hg.block k hk2.2 fun e => ?_
    rcases h.apart with h3 | h3
    · rw [h3] at hk; cases hk
    · exact h3 (by rw [← e, hk])
  · refine ⟨vs ++ [v], ?_, (all_keep hall hko hio).snoc (hm.keep hko hio)⟩
    rw [show (ds ++ [m]).length = ds.length + 1 from by simp]
    refine owns_same hown fun k hk => setCell_heap_ne ?_
    have := (hown.lt k hk).1
    have := h.cbl
    omega
  · rcases hloc with e | e
    · rw [e]; exact h.apart
    · rcases h.apart with h3 | h3
      · exact Or.inl h3
      · right
        intro e'
        rw [e] at e'
        have := (h.ri.lt _ e').2
        omega
/-- A store into a block not below B. -/
theorem below_cb {B k : Nat} {w0 W : World} (h : Below B w0 W) (hB : B ≤ cb) (u : Value) : Below B w0 (W.setCell ⟨cb, k, none⟩ u) := h.setCell hB u
theorem St.grown {B : Nat} {w0 : World} (h : St w base cb no vI vD is ds) (hb : Below B w0 w) (hB : B ≤ cb) (hg : w.grownBy w1 vI.ownBlock) : Below B w0 w1 :=
  hb.grown hg (by have := h.cbl; have := h.bl; omega) fun k hk => by have := (h.ri.lt k hk).1; have := h.cbl; omega
theorem St.grownD {B : Nat} {w0 : World} (h : St w base cb no vI vD is ds) (hb : Below B w0 w) (hB : B ≤ cb) (hg : w.grownBy w1 vD.ownBlock) : Below B w0 w1 :=
  hb.grown hg (by have := h.cbl; have := h.bl; omega) fun k hk => by have := (h.rd.lt k hk).1; have := h.cbl; omega
end
/-- Env, told up to a block number. -/
structure EnvB (w : World) (B : Nat) (p4 p6 : Addr) : Prop where
  env : Env w p4 p6
  le : B ≤ w.heap.size
  lt : 10 < B
  l4 : p4.block < B
  l6 : p6.block < B
theorem EnvB.keep {w w1 : World} {B : Nat} {p4 p6 : Addr} (h : EnvB w B p4 p6) (hb : Below B w w1) : EnvB w1 B p4 p6 := by
  have hc : ∀ (p : Addr) (v : Value), p.block < B → w.cell? p = some v → w1.cell? p = some v := fun p v hp e => (hb.cell hp).trans e
  refine ⟨⟨Nat.lt_of_lt_of_le h.env.size hb.size, hc _ _ (by have := h.lt; show 2 < B; omega) h.env.g2, hc _ _ (by have := h.lt; show 3 < B; omega) h.env.g3, hc _ _ (by have := h.lt; show 7 < B; omega) h.env.g7, h.env.ne, ?_, ?_, hc _ _ h.l4 h.env.f4, hc _ _ (by rw [show (p4.add 1).block = p4.block from rfl]; exact h.l4) h.env.s4, hc _ _ h.l6 h.env.f6, hc _ _ (by rw [show (p6.add 1).block = p6.block from rfl]; exact h.l6) h.env.s6, ?_⟩, Nat.le_trans h.le hb.size, h.lt, h.l4, h.l6⟩
  · obtain ⟨c, t, e⟩ := h.env.b4; exact ⟨c, t, (hb.block _ h.l4).trans e⟩
  · obtain ⟨c, t, e⟩ := h.env.b6; exact ⟨c, t, (hb.block _ h.l6).trans e⟩
  · have ht := h.env.tab
    unfold Lib.TabIs at ht ⊢
    rw [← ht]
    unfold World.var?
    rw [spaceGlobal]
    have := hb.block 1 (by have := h.lt; omega)
    simp only [Option.bind_some, this]
end Go.Proofs.YtpemdpfageikfaaGreatDoor.R
/- Trimming and small letters; the cells of the struct config. -/
namespace Go.Proofs.YtpemdpfageikfaaGreatDoor.R
open Go.RowKit Go.Proofs.YtpemdpfageikfaaGreatDoorW.PrintWords Go.Proofs.YtpemdpfageikfaaGreatDoorW.PrintLast Go.Proofs.YtpemdpfageikfaaGreatDoorW.PrintMore

/-- An entry as config.init reads it: trimmed, in small letters. -/
def norm (p : ByteArray) : ByteArray := ⟨(Lib.toLowerA (Lib.trimSpace p.data.toList)).toArray⟩

theorem CbAt.facts {w : World} {cb : Nat} {no : ByteArray} {vI vD : Value} (h : CbAt w cb no vI vD) :
    w.cell? ⟨cb, 0, none⟩ = some (.string ⟨#[]⟩) ∧ w.cell? ⟨cb, 1, none⟩ = some (.string ⟨#[]⟩) ∧ w.cell? ⟨cb, 2, none⟩ = some (.string no) ∧ w.cell? ⟨cb, 4, none⟩ = some (.pointer none) ∧ w.cell? ⟨cb, 5, none⟩ = some (.pointer none) ∧ w.cell? ⟨cb, 6, none⟩ = some vI ∧ w.cell? ⟨cb, 7, none⟩ = some vD ∧ ∀ j, w.frozen? ⟨cb, j, none⟩ = false := by
  unfold CbAt at h
  simp [World.cell?, World.frozen?, h]
theorem trim_sub (l : List UInt8) : (Lib.trimSpace l).Sublist l := by
  unfold Lib.trimSpace
  refine List.Sublist.trans ?_ (List.dropWhile_sublist Lib.isSp)
  rw [← List.reverse_sublist, List.reverse_reverse]
  exact List.dropWhile_sublist _
theorem asc_sub {l l' : List UInt8} (h : l'.Sublist l) (ha : ∀ (j : Nat) (b : UInt8), l[j]? = some b → b.toNat < 128) : ∀ (j : Nat) (b : UInt8), l'[j]? = some b → b.toNat < 128 := fun j b e => by
  obtain ⟨i, hi⟩ := List.mem_iff_getElem?.1 (h.subset (List.mem_of_getElem? e))
  exact ha i b hi
theorem below_bytes {B : Nat} {w0 w : World} (h : Below B w0 w) (hB : B ≤ w.heap.size) (e : TypeId) (s : ByteArray) : Below B w0 (Lib.bytesWorld w e s) :=
  h.trans ⟨rfl, rfl, rfl, by rw [Lib.bytesWorld_size]; omega, fun k hk => Lib.bytesWorld_at_old w e s k (by omega)⟩
/-- strings.TrimSpace, then strings.ToLower. -/
theorem trim_at (p : ByteArray) (p4 p6 : Addr) (hs : p.size ≤ 140737488351232) (ha : Asc p) (w : World) (hE : Env w p4 p6) : Calls Tryz.prog 47 #[.string p] w fun e w' => e = .returned (.string ⟨(Lib.trimSpace p.data.toList).toArray⟩) ∧ Below w.heap.size w w' :=
  (Tryz.strings_TrimSpace p w (by omega) ha hE.tab).mono fun _ _ x => ⟨x.1, by rw [x.2]; exact below_bytes (Below.refl _ _) (Nat.le_refl _) _ _⟩
theorem lower_at (p : ByteArray) (hs : p.size ≤ 140737488351232) (ha : Asc p) (w : World) : Calls Tryz.prog 46 #[.string ⟨(Lib.trimSpace p.data.toList).toArray⟩] w fun e w' => e = .returned (.string (norm p)) ∧ Below w.heap.size w w' :=
  Tryz.strings_ToLower_ascii ⟨(Lib.trimSpace p.data.toList).toArray⟩ w (by have := (trim_sub p.data.toList).length_le; have h2 : p.data.toList.length = p.size := rfl; show (Lib.trimSpace p.data.toList).toArray.size ≤ _; simp; omega) (asc_sub (by simpa using trim_sub p.data.toList) ha)
theorem str_cells {w : World} {A : Option Addr} {n : Nat} {l : List ByteArray} (h : Kd.C Kd.string w A n l) (hn : 0 < n) : ∃ b o, A = some ⟨b, o, none⟩ ∧ ∀ j (hj : j < l.length), w.cell? ⟨b, o + j, none⟩ = some (.string l[j]) := by
  obtain ⟨h1, h2, h3⟩ := h
  obtain ⟨ad, rfl, hj⟩ := h3 hn
  have hc : ∀ j (hj : j < l.length), w.cell? (ad.add j) = some (.string l[j]) := fun j hl => by
    obtain ⟨cs, e1, e2, hc⟩ := hj j l[j] (by simp [hl])
    have hcs : cs = [.string l[j]] := e2
    have := hc 0 (.string l[j]) (by rw [hcs]; rfl)
    simpa [Kd.string, Kd.scalar] using this
  have h0 := hc 0 (by omega)
  have hsp := World.cell?_spot h0
  obtain ⟨b, o, sp⟩ := ad
  obtain rfl : sp = none := hsp
  exact ⟨b, o, rfl, fun j hl => by rw [← add_place]; exact hc j hl⟩

end Go.Proofs.YtpemdpfageikfaaGreatDoor.R
