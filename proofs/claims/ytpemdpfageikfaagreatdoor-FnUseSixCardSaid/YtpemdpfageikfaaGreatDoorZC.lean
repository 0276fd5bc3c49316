/- As16, AsSlice, To4, IsLoopback, Equal. -/
import Derived.Test.YtpemdpfageikfaaGreatDoorZB
import Derived.Test.YtpemdpfageikfaaGreatDoorZQd
set_option linter.unusedVariables false
set_option linter.unusedSimpArgs false
/-
  The functions of netip that make bytes out of an Addr: BEPutUint64, BEPutUint32, As16, AsSlice.
-/
namespace Go.Proofs.YtpemdpfageikfaaGreatDoor.R
open Go.RowKit Go.Proofs.YtpemdpfageikfaaGreatDoorW.PrintWords Go.Proofs.YtpemdpfageikfaaGreatDoorW.PrintLast Go.Proofs.YtpemdpfageikfaaGreatDoorW.PrintMore

theorem blk_last (w : World) (o : Obj) (b : Nat) (h : b = w.heap.size) : (w.alloc o).heap[b]? = some o := by subst h; exact heap_new w o
theorem blk_last_d (w : World) (o : Obj) (b : Nat) (h : b = w.heap.size) : (w.alloc o).drew.heap[b]? = some o := blk_last w o b h
theorem blk_last_dd (w : World) (o : Obj) (b : Nat) (h : b = w.heap.size) : (w.alloc o).drew.drew.heap[b]? = some o := blk_last w o b h
theorem bePut64 (b off c : Nat) (v : Int) (w : World) (h0 : 0 ≤ v) (h1 : v < 18446744073709551616)
    (cs : Array Value) (T : TypeId) (hb : w.heap[b]? = some (.cells cs T (0, 0))) (hs : off + 8 ≤ cs.size) :
    Calls Tryz.prog 88 #[.slice (some ⟨b, off, none⟩) 8 c, .int .u64 v] w fun e w' => e = .returned (.tuple #[]) ∧
      (((((((w.setCell ⟨b, off, none⟩ (.int .u8 (v / 72057594037927936))).setCell ⟨b, off + 1, none⟩ (.int .u8 (v / 281474976710656 % 256))).setCell ⟨b, off + 2, none⟩ (.int .u8 (v / 1099511627776 % 256))).setCell ⟨b, off + 3, none⟩ (.int .u8 (v / 4294967296 % 256))).setCell ⟨b, off + 4, none⟩ (.int .u8 (v / 16777216 % 256))).setCell ⟨b, off + 5, none⟩ (.int .u8 (v / 65536 % 256))).setCell ⟨b, off + 6, none⟩ (.int .u8 (v / 256 % 256))).setCell ⟨b, off + 7, none⟩ (.int .u8 (v % 256)) = w' := by
  have f : ∀ j, w.frozen? ⟨b, off + j, none⟩ = false := fun j => by simp [World.frozen?, hb]
  have k : ∀ j, off + j < cs.size → ∃ u, w.cell? ⟨b, off + j, none⟩ = some u := fun j hj => ⟨cs[off + j], by simp [World.cell?, hb, hj]⟩
  have f0 := f 0
  have f1 := f 1
  have f2 := f 2
  have f3 := f 3
  have f4 := f 4
  have f5 := f 5
  have f6 := f 6
  have f7 := f 7
  obtain ⟨u0, k0⟩ := k 0 (by omega)
  obtain ⟨u1, k1⟩ := k 1 (by omega)
  obtain ⟨u2, k2⟩ := k 2 (by omega)
  obtain ⟨u3, k3⟩ := k 3 (by omega)
  obtain ⟨u4, k4⟩ := k 4 (by omega)
  obtain ⟨u5, k5⟩ := k 5 (by omega)
  obtain ⟨u6, k6⟩ := k 6 (by omega)
  obtain ⟨u7, k7⟩ := k 7 (by omega)
  rw [Nat.add_zero] at f0 k0
  clear f k hb hs
  go_enter Tryz.func88, Tryz.ntmps88
  go_wp2
  go_returns
  exact ⟨rfl, rfl⟩
theorem bePut32 (b off c : Nat) (v : Int) (w : World) (h0 : 0 ≤ v) (h1 : v < 4294967296)
    (cs : Array Value) (T : TypeId) (hb : w.heap[b]? = some (.cells cs T (0, 0))) (hs : off + 4 ≤ cs.size) :
    Calls Tryz.prog 87 #[.slice (some ⟨b, off, none⟩) 4 c, .int .u32 v] w fun e w' => e = .returned (.tuple #[]) ∧
      (((w.setCell ⟨b, off, none⟩ (.int .u8 (v / 16777216))).setCell ⟨b, off + 1, none⟩ (.int .u8 (v / 65536 % 256))).setCell ⟨b, off + 2, none⟩ (.int .u8 (v / 256 % 256))).setCell ⟨b, off + 3, none⟩ (.int .u8 (v % 256)) = w' := by
  have f : ∀ j, w.frozen? ⟨b, off + j, none⟩ = false := fun j => by simp [World.frozen?, hb]
  have k : ∀ j, off + j < cs.size → ∃ u, w.cell? ⟨b, off + j, none⟩ = some u := fun j hj => ⟨cs[off + j], by simp [World.cell?, hb, hj]⟩
  have f0 := f 0
  have f1 := f 1
  have f2 := f 2
  have f3 := f 3
  obtain ⟨u0, k0⟩ := k 0 (by omega)
  obtain ⟨u1, k1⟩ := k 1 (by omega)
  obtain ⟨u2, k2⟩ := k 2 (by omega)
  obtain ⟨u3, k3⟩ := k 3 (by omega)
  rw [Nat.add_zero] at f0 k0
  clear f k hb hs
  go_enter Tryz.func87, Tryz.ntmps87
  go_wp2
  go_returns
  exact ⟨rfl, rfl⟩

/-- The eight bytes of a number, the great ones first. -/
def bytes64 (v : Int) : List Int := [v / 72057594037927936, v / 281474976710656 % 256, v / 1099511627776 % 256, v / 4294967296 % 256, v / 16777216 % 256, v / 65536 % 256, v / 256 % 256, v % 256]

set_option maxHeartbeats 4000000 in
theorem as16 (hi lo : Int) (p : Addr) (w : World) (h0 : 0 ≤ hi) (h1 : hi < 18446744073709551616) (l0 : 0 ≤ lo) (l1 : lo < 18446744073709551616) :
    Calls Tryz.prog 77 #[.agg #[.int .u64 hi, .int .u64 lo, .pointer (some p)]] w fun e w' => e = .returned (.agg (nums .u8 (bytes64 hi ++ bytes64 lo)).toArray) ∧ Below w.heap.size w w' := by
  go_enter Tryz.func77, Tryz.ntmps77
  go_wp2
  go_region_with (first | (go_at_call 88; refine (bePut64 _ 0 _ hi _ h0 h1 #[.int .u8 0, .int .u8 0, .int .u8 0, .int .u8 0, .int .u8 0, .int .u8 0, .int .u8 0, .int .u8 0, .int .u8 0, .int .u8 0, .int .u8 0, .int .u8 0, .int .u8 0, .int .u8 0, .int .u8 0, .int .u8 0] 28 ?_ ?_).mono ?_; exact blk_last_d _ _ _ (by simp); exact (by simp); rintro e w1 ⟨rfl, rfl⟩))
  go_wp2
  go_region_with (first | (go_at_call 88; refine (bePut64 _ 8 _ lo _ l0 l1 #[.int .u8 (hi / 72057594037927936), .int .u8 (hi / 281474976710656 % 256), .int .u8 (hi / 1099511627776 % 256), .int .u8 (hi / 4294967296 % 256), .int .u8 (hi / 16777216 % 256), .int .u8 (hi / 65536 % 256), .int .u8 (hi / 256 % 256), .int .u8 (hi % 256), .int .u8 0, .int .u8 0, .int .u8 0, .int .u8 0, .int .u8 0, .int .u8 0, .int .u8 0, .int .u8 0] 28 ?_ ?_).mono ?_; exact blk_last_dd _ _ _ (by simp); exact (by simp); rintro e w1 ⟨rfl, rfl⟩))
  go_wp2
  go_returns
  exact ⟨rfl, by go_grown⟩

/-- A row of bytes told by its value, out of the block in which it lies. -/
theorem V_block {w : World} {b : Nat} {l : List Int} {T : TypeId} {fr : Nat × Nat} (e base : Nat) (ok : Nat → Prop) (h : w.heap[b]? = some (.cells (nums .u8 l).toArray T fr)) (hok : ok b) (off n c : Nat) (hn : off + n ≤ l.length) (hmax : n ≤ 9223372036854775807) (hc : n ≤ c) :
    Kd.V (Kd.int .u8) e w base ok (.slice (some ⟨b, off, none⟩) n c) ((l.drop off).take n) := by
  have hl : ((l.drop off).take n).length = n := by simp; omega
  refine ⟨some ⟨b, off, none⟩, c, by rw [hl], by rw [hl]; exact hc, fun W hW => ?_⟩
  show Kd.C (Kd.int .u8) W _ _ _
  rw [hl]
  exact C_block ((hW b hok (blk_lt' h)).trans h) off n hn hmax

/-- The four bytes of a number of 32 bits. -/
def bytes32 (v : Int) : List Int := [v / 16777216, v / 65536 % 256, v / 256 % 256, v % 256]

set_option maxHeartbeats 4000000 in
theorem asSlice_4 (hi lo : Int) (p4 p6 : Addr) (w : World) (hE : Env w p4 p6) (l0 : 0 ≤ lo) (l1 : lo < 18446744073709551616) :
    Calls Tryz.prog 54 #[.agg #[.int .u64 hi, .int .u64 lo, .pointer (some p4)]] w fun e w' => ∃ b, w.heap.size ≤ b ∧ e = .returned (.slice (some ⟨b, 0, none⟩) 4 4) ∧ w'.heap[b]? = some (.cells (nums .u8 (bytes32 (lo % 4294967296))).toArray 146 (0, 0)) ∧ Below w.heap.size w w' := by
  have h2 := fun o => (hE.alloc o).g2
  have h3 := fun o => (hE.alloc o).g3
  have q1 := eq_nil p4
  have q2 := eq_same p4
  clear hE
  have m0 : 0 ≤ lo % 4294967296 := by omega
  have m1 : lo % 4294967296 < 4294967296 := by omega
  go_enter Tryz.func54, Tryz.ntmps54
  go_wp2
  go_region_with (first | (go_at_call 87; refine (bePut32 _ 0 _ (lo % 4294967296) _ m0 m1 #[.int .u8 0, .int .u8 0, .int .u8 0, .int .u8 0] 146 ?_ ?_).mono ?_; exact blk_last_d _ _ _ (by simp); exact (by simp); rintro e w1 ⟨rfl, rfl⟩))
  go_wp2
  go_returns
  exact ⟨w.heap.size + 1, by omega, rfl, (blk_last_d _ _ _ (by simp)).trans (by simp [nums, bytes32]), by go_grown⟩
set_option maxHeartbeats 4000000 in
theorem asSlice_6 (hi lo : Int) (p4 p6 : Addr) (w : World) (hE : Env w p4 p6) (h0 : 0 ≤ hi) (h1 : hi < 18446744073709551616) (l0 : 0 ≤ lo) (l1 : lo < 18446744073709551616) :
    Calls Tryz.prog 54 #[.agg #[.int .u64 hi, .int .u64 lo, .pointer (some p6)]] w fun e w' => ∃ b, w.heap.size ≤ b ∧ e = .returned (.slice (some ⟨b, 0, none⟩) 16 16) ∧ w'.heap[b]? = some (.cells (nums .u8 (bytes64 hi ++ bytes64 lo)).toArray 28 (0, 0)) ∧ Below w.heap.size w w' := by
  have h2 := fun o => (hE.alloc o).g2
  have h3 := fun o => (hE.alloc o).g3
  have q1 := eq_nil p6
  have q2 := Lib.hid (fun o => (hE.alloc o).eq64)
  clear hE
  go_enter Tryz.func54, Tryz.ntmps54
  go_wp2_with (refine wpList_eqh ?_ .eql (.tmp 6) (.tmp 22) 100 ?_ (.pointer (some p6)) (.pointer (some p4)) ?_ ?_ (.bool false) ?_ ?_; rfl; rfl; rfl; rfl; exact q2.out _)
  go_region_with (first | (go_at_call 88; refine (bePut64 _ 0 _ hi _ h0 h1 #[.int .u8 0, .int .u8 0, .int .u8 0, .int .u8 0, .int .u8 0, .int .u8 0, .int .u8 0, .int .u8 0, .int .u8 0, .int .u8 0, .int .u8 0, .int .u8 0, .int .u8 0, .int .u8 0, .int .u8 0, .int .u8 0] 28 ?_ ?_).mono ?_; exact blk_last_d _ _ _ (by simp); exact (by simp); rintro e w1 ⟨rfl, rfl⟩))
  go_wp2
  go_region_with (first | (go_at_call 88; refine (bePut64 _ 8 _ lo _ l0 l1 #[.int .u8 (hi / 72057594037927936), .int .u8 (hi / 281474976710656 % 256), .int .u8 (hi / 1099511627776 % 256), .int .u8 (hi / 4294967296 % 256), .int .u8 (hi / 16777216 % 256), .int .u8 (hi / 65536 % 256), .int .u8 (hi / 256 % 256), .int .u8 (hi % 256), .int .u8 0, .int .u8 0, .int .u8 0, .int .u8 0, .int .u8 0, .int .u8 0, .int .u8 0, .int .u8 0] 28 ?_ ?_).mono ?_; exact blk_last_dd _ _ _ (by simp); exact (by simp); rintro e w1 ⟨rfl, rfl⟩))
  go_wp2
  go_returns
  exact ⟨w.heap.size + 1, by omega, rfl, (blk_last_dd _ _ _ (by simp)).trans (by simp [nums, bytes64]), by go_grown⟩
end Go.Proofs.YtpemdpfageikfaaGreatDoor.R
/-
  IP.To4 and IP.IsLoopback.
-/
namespace Go.Proofs.YtpemdpfageikfaaGreatDoor.R
open Go.RowKit Go.Proofs.YtpemdpfageikfaaGreatDoorW.PrintWords Go.Proofs.YtpemdpfageikfaaGreatDoorW.PrintLast Go.Proofs.YtpemdpfageikfaaGreatDoorW.PrintMore

theorem wrap_succ {i : Int} {n : Nat} (h0 : 0 ≤ i) (h : i < (n : Int)) (hn : n ≤ 9223372036854775807) : wrap64 (i + 1) = i + 1 := by
  unfold wrap64
  omega
theorem isZeros_l (l : List Int) (hn : l.length ≤ 9223372036854775807) (d : Nat) : ∀ (k : Nat) (i : Int), 0 ≤ i → i ≤ l.length → (l.length : Int) - i = d → d < k →
    Q.netcidr_isZeros.l0 k l i = some ((l.drop i.toNat).all (· == 0)) := by
  induction d with
  | zero =>
    intro k i h0 h1 hd hk
    obtain ⟨k, rfl⟩ : ∃ m, k = m + 1 := ⟨k - 1, by omega⟩
    simp only [Q.netcidr_isZeros.l0]
    rw [if_neg (by omega), List.drop_of_length_le (by omega)]
    rfl
  | succ d ih =>
    intro k i h0 h1 hd hk
    obtain ⟨k, rfl⟩ : ∃ m, k = m + 1 := ⟨k - 1, by omega⟩
    have hlt : i < (l.length : Int) := by omega
    have hi : i.toNat < l.length := by omega
    have hdr : l.drop i.toNat = l[i.toNat] :: l.drop (i + 1).toNat := by
      rw [List.drop_eq_getElem_cons hi]
      congr 2
      omega
    have hrd : rd l i = l[i.toNat] := by simp [rd, List.getD, hi]
    simp only [Q.netcidr_isZeros.l0]
    rw [if_pos hlt, if_pos h0, hrd, hdr]
    by_cases hz : l[i.toNat] = 0
    · rw [if_pos hz, wrap_succ h0 hlt hn, ih k (i + 1) (by omega) (by omega) (by omega) (by omega)]
      simp [hz]
    · rw [if_neg hz]
      simp [hz]
theorem isZeros_f (l : List Int) (hn : l.length ≤ 9223372036854775807) : Q.netcidr_isZeros.f (l.length + 1) l = some (l.all (· == 0)) := by
  unfold Q.netcidr_isZeros.f
  rw [isZeros_l l hn l.length (l.length + 1) 0 (by omega) (by omega) (by omega) (by omega)]
  rfl
theorem isZeros_calls (A : Option Addr) (n c : Nat) (l : List Int) (w : World) (hr : Kd.C (Kd.int .u8) w A n l) (hc : n ≤ c) :
    Calls Tryz.prog 119 #[.slice A n c] w fun e w' => e = .returned (.bool (l.all (· == 0))) ∧ ∃ m, w.drewN m = w' := by
  have hl : l.length = n := hr.1
  subst hl
  refine (Q.netcidr_isZeros.calls (l.length + 1) A c l _ w hr hc (isZeros_f l hr.2.1)).mono ?_
  rintro e w' ⟨rfl, ⟨m, rfl⟩⟩
  exact ⟨rfl, m, rfl⟩

/-- The cells of a row of bytes. -/
theorem C_cell {w : World} {b o n : Nat} {l : List Int} (h : Kd.C (Kd.int .u8) w (some ⟨b, o, none⟩) n l) (j : Nat) (hj : j < n) : w.cell? ⟨b, o + j, none⟩ = some (.int .u8 (l.getD j 0)) := by
  have := Kd.foot_int h j (by omega) (by omega)
  rw [add_place] at this
  simpa [rd] using this

theorem C_take' {w : World} {A : Option Addr} {n : Nat} {l : List Int} (h : Kd.C (Kd.int .u8) w A n l) (m : Nat) (hm : m ≤ n) : Kd.C (Kd.int .u8) w A m (l.take m) := by
  have hl := h.1
  subst hl
  have := Kd.C_take (m := m) h hm
  rwa [show (l.take m).length = m from by simp; omega] at this
theorem to4_4 (A : Option Addr) (c : Nat) (w : World) :
    Calls Tryz.prog 89 #[.slice A 4 c] w fun e w' => e = .returned (.slice A 4 c) ∧ w = w' := by
  go_enter Tryz.func89, Tryz.ntmps89
  go_wp2
  go_ret
  exact ⟨rfl, rfl⟩

/-- Does a row of sixteen bytes stand for an address of 32 bits? -/
def is4in6 (l : List Int) : Bool := (l.take 10).all (· == 0) && l.getD 10 0 == 255 && l.getD 11 0 == 255
/-- To4's walk over sixteen bytes: of the first ten it asks one bool, of two it asks the numbers. -/
theorem to4_ways (b o c : Nat) (zb : Bool) (x10 x11 : Int) (w : World) (hc : 16 ≤ c) (k10 : w.cell? ⟨b, o + 10, none⟩ = some (.int .u8 x10)) (k11 : w.cell? ⟨b, o + 11, none⟩ = some (.int .u8 x11))
    (hz0 : Calls Tryz.prog 119 #[.slice (some ⟨b, o, none⟩) 10 c] w fun e w' => e = .returned (.bool zb) ∧ ∃ m, w.drewN m = w') :
    Calls Tryz.prog 89 #[.slice (some ⟨b, o, none⟩) 16 c] w fun e w' => e = .returned (bif zb && x10 == 255 && x11 == 255 then .slice (some ⟨b, o + 12, none⟩) 4 (c - 12) else .slice none 0 0) ∧ ∃ m, w.drewN m = w' := by
  have hz := Lib.hid hz0
  clear hz0
  cases zb with
  | false =>
    go_enter Tryz.func89, Tryz.ntmps89
    go_wp2_with (go_at_call 119; refine hz.out.mono ?_; rintro e w1 ⟨rfl, m, rfl⟩)
    go_ret
    exact ⟨rfl, m, rfl⟩
  | true =>
    by_cases e10 : x10 = 255
    · subst e10
      by_cases e11 : x11 = 255
      · subst e11
        go_enter Tryz.func89, Tryz.ntmps89
        go_wp2_with (go_at_call 119; refine hz.out.mono ?_; rintro e w1 ⟨rfl, m, rfl⟩)
        go_ret
        exact ⟨rfl, m, rfl⟩
      · have t11 : (x11 == 255) = false := by simpa using e11
        clear e11
        go_enter Tryz.func89, Tryz.ntmps89
        go_wp2_with (go_at_call 119; refine hz.out.mono ?_; rintro e w1 ⟨rfl, m, rfl⟩)
        go_ret
        exact ⟨by simp [t11], m, rfl⟩
    · have t10 : (x10 == 255) = false := by simpa using e10
      clear e10
      go_enter Tryz.func89, Tryz.ntmps89
      go_wp2_with (go_at_call 119; refine hz.out.mono ?_; rintro e w1 ⟨rfl, m, rfl⟩)
      go_ret
      exact ⟨by simp [t10], m, rfl⟩
theorem to4_16 (b o c : Nat) (l : List Int) (w : World) (hr : Kd.C (Kd.int .u8) w (some ⟨b, o, none⟩) 16 l) (hc : 16 ≤ c) :
    Calls Tryz.prog 89 #[.slice (some ⟨b, o, none⟩) 16 c] w fun e w' => e = .returned (bif is4in6 l then .slice (some ⟨b, o + 12, none⟩) 4 (c - 12) else .slice none 0 0) ∧ ∃ m, w.drewN m = w' :=
  to4_ways b o c _ _ _ w hc (C_cell hr 10 (by omega)) (C_cell hr 11 (by omega)) (isZeros_calls (some ⟨b, o, none⟩) 10 c (l.take 10) w (C_take' hr 10 (by omega)) (by omega))

theorem neq_nil80 (A : Option Addr) (n c : Nat) (W : World) : (binOp .neq 80 (.slice A n c) (.slice none 0 0)).run Tryz.prog W = .ok (.bool (!A.isNone)) W := run_neq_slice_nil_any W 80 5 A n c 0 0 Tryz.underlying80
/-- Loopback of an address of 32 bits: its first byte. -/
theorem isLoop_4 (b o c : Nat) (x0 : Int) (w : World) (k0 : w.cell? ⟨b, o, none⟩ = some (.int .u8 x0)) :
    Calls Tryz.prog 55 #[.slice (some ⟨b, o, none⟩) 4 c] w fun e w' => e = .returned (.bool (x0 == 127)) ∧ w = w' := by
  have qn := neq_nil80
  go_enter Tryz.func55, Tryz.ntmps55
  go_wp2_with (go_at_call 89; refine (to4_4 _ _ _).mono ?_; rintro e w1 ⟨rfl, rfl⟩)
  go_ret
  exact ⟨rfl, rfl⟩

theorem u8_inj {x y : Int} (hx : 0 ≤ x ∧ x ≤ 255) (hy : 0 ≤ y ∧ y ≤ 255) (h : UInt8.ofNat x.toNat = UInt8.ofNat y.toNat) : x = y := by
  have := congrArg UInt8.toNat h
  simp only [UInt8.toNat_ofNat'] at this
  omega
theorem map_u8_inj : ∀ (l l' : List Int), (∀ x ∈ l, 0 ≤ x ∧ x ≤ 255) → (∀ x ∈ l', 0 ≤ x ∧ x ≤ 255) → (l.map fun n => UInt8.ofNat n.toNat) = (l'.map fun n => UInt8.ofNat n.toNat) → l = l'
  | [], [], _, _, _ => rfl
  | [], _ :: _, _, _, h => by simp at h
  | _ :: _, [], _, _, h => by simp at h
  | x :: l, y :: l', h, h', e => by
    simp only [List.map_cons, List.cons.injEq] at e
    rw [u8_inj (h x (by simp)) (h' y (by simp)) e.1, map_u8_inj l l' (fun z hz => h z (by simp [hz])) (fun z hz => h' z (by simp [hz])) e.2]
theorem strOfNums_inj (l l' : List Int) (h : ∀ x ∈ l, 0 ≤ x ∧ x ≤ 255) (h' : ∀ x ∈ l', 0 ≤ x ∧ x ≤ 255) : ((strOfNums l).toList == (strOfNums l').toList) = (l == l') := by
  rw [Bool.eq_iff_iff]
  simp only [beq_iff_eq, ByteArray.toList_eq]
  unfold strOfNums
  constructor
  · intro e
    exact map_u8_inj l l' h h' (by simpa using e)
  · rintro rfl; rfl
/-- Two rows of sixteen bytes. -/
theorem equal_16 (A B : Option Addr) (c d : Nat) (l l' : List Int) (w : World) (hl : Kd.C (Kd.int .u8) w A 16 l) (hl' : Kd.C (Kd.int .u8) w B 16 l') (hc : 16 ≤ c) (hd : 16 ≤ d) (r : ∀ x ∈ l, 0 ≤ x ∧ x ≤ 255) (r' : ∀ x ∈ l', 0 ≤ x ∧ x ≤ 255) :
    Calls Tryz.prog 90 #[.slice A 16 c, .slice B 16 d] w fun e w' => e = .returned (.bool (l == l')) ∧ Below w.heap.size w w' := by
  have e1 := hl.1
  have e2 := hl'.1
  have hf : Q.netcidr_IP_Equal.f 1 l l' = some (l == l') := by
    unfold Q.netcidr_IP_Equal.f Q.bytes_Equal.f
    rw [if_pos (by omega), strOfNums_inj l l' r r']
    rfl
  have := Q.netcidr_IP_Equal.calls 1 A c l B d l' (l == l') w (by rw [e1]; exact hl) (by omega) (by rw [e2]; exact hl') (by omega) hf
  rw [e1, e2] at this
  exact this
/-- Loopback of an address of 128 bits that stands for none of 32. -/
theorem isLoop_16 (b o c : Nat) (l : List Int) (w : World) (hr : Kd.C (Kd.int .u8) w (some ⟨b, o, none⟩) 16 l) (hc : 16 ≤ c) (r : ∀ x ∈ l, 0 ≤ x ∧ x ≤ 255) (h4 : is4in6 l = false) :
    Calls Tryz.prog 55 #[.slice (some ⟨b, o, none⟩) 16 c] w fun e w' => e = .returned (.bool (l == [0, 0, 0, 0, 0, 0, 0, 0, 0, 0, 0, 0, 0, 0, 0, 1])) ∧ Below w.heap.size w w' := by
  have ht := Lib.hid (to4_16 b o c l w hr hc)
  rw [h4] at ht
  have hE := Lib.hid (fun (w1 : World) (hb : Below w.heap.size w w1) => Kd.C_below hr hb)
  have qn := neq_nil80
  clear hr h4
  go_enter Tryz.func55, Tryz.ntmps55
  go_wp2_with fail
  refine ht.out.mono ?_
  rintro e w1 ⟨rfl, m, rfl⟩
  simp only [cond_false]
  go_wp2_with fail
  refine (Q.netcidr_IPv6loopback.calls _ _ rfl).mono ?_
  rintro e w1 ⟨v, rfl, hv, hb⟩
  obtain ⟨A, d, rfl⟩ := Kd.R_slice hv
  obtain ⟨_, h2, h3⟩ := Kd.R_reads' hv
  have q := Lib.hid (equal_16 (some ⟨b, o, none⟩) A c d l _ w1 (hE.out w1 (blw (pw_below_drewN (Below.refl _ _) m) hb)) h3 hc h2 r (by decide))
  have hb' := Lib.hid hb
  clear hv h2 h3 hb
  go_wp2_with (go_at_call 90; refine q.out.mono ?_; rintro e w2 ⟨rfl, hb2⟩)
  go_ret
  exact ⟨rfl, blw (blw (pw_below_drewN (Below.refl _ _) m) hb'.out) hb2⟩
end Go.Proofs.YtpemdpfageikfaaGreatDoor.R
