/- Sixteen, Begin, hex, SixAddr, IsPlain. -/
import Derived.Test.YtpemdpfageikfaaGreatDoorZF
import Derived.Laws.CopyOwn
import Derived.BigQuiet
import Derived.Test.YtpemdpfageikfaaGreatDoorZL
import Derived.Test.YtpemdpfageikfaaGreatDoorZA
set_option linter.unusedVariables false
set_option linter.unusedSimpArgs false
/- spec.Sixteen: the first sixteen bytes of a list, with zeros for those that are missing. -/
namespace Go.Proofs.YtpemdpfageikfaaGreatDoor.R
open Go.RowKit Go.Proofs.YtpemdpfageikfaaGreatDoorW.PrintWords Go.Proofs.YtpemdpfageikfaaGreatDoorW.PrintLast Go.Proofs.YtpemdpfageikfaaGreatDoorW.PrintMore

def zer16 : List Int := [0, 0, 0, 0, 0, 0, 0, 0, 0, 0, 0, 0, 0, 0, 0, 0]
/-- Sixteen bytes of a list. -/
def six (l : List Int) : List Int := l.take 16 ++ zer16.drop (l.take 16).length
theorem six_len (l : List Int) : (six l).length = 16 := by
  simp [six, zer16]
  omega
theorem list16 (l : List Int) (h : l.length = 16) : ∃ b0 b1 b2 b3 b4 b5 b6 b7 b8 b9 b10 b11 b12 b13 b14 b15, l = [b0, b1, b2, b3, b4, b5, b6, b7, b8, b9, b10, b11, b12, b13, b14, b15] := by
  match l, h with
  | [b0, b1, b2, b3, b4, b5, b6, b7, b8, b9, b10, b11, b12, b13, b14, b15], _ => exact ⟨_, _, _, _, _, _, _, _, _, _, _, _, _, _, _, _, rfl⟩
theorem splice_six (l : List Int) : splice (nums .u8 zer16) 0 (nums .u8 (l.take 16)) = nums .u8 (six l) := by
  simp [splice, nums, six, List.map_drop]
/-- What a slice of bytes reads as. -/
def BytesAt (w : World) (A : Option Addr) (l : List Int) : Prop := 0 < l.length → ∃ b o, A = some ⟨b, o, none⟩ ∧ ∀ j, j < l.length → w.cell? ⟨b, o + j, none⟩ = some (.int .u8 (l.getD j 0))
theorem zer_obj : Obj.cells #[.int .u8 0, .int .u8 0, .int .u8 0, .int .u8 0, .int .u8 0, .int .u8 0, .int .u8 0, .int .u8 0, .int .u8 0, .int .u8 0, .int .u8 0, .int .u8 0, .int .u8 0, .int .u8 0, .int .u8 0, .int .u8 0] 28 = Obj.cells (nums .u8 zer16).toArray 28 (0, 0) := rfl
set_option maxHeartbeats 1000000 in
theorem sixteen (A : Option Addr) (c : Nat) (l : List Int) (w : World) (hA : BytesAt w A l) (hlen : l.length ≤ 2147483647) :
    Calls Tryz.prog 14 #[.slice A l.length c] w fun e w' => e = .returned (.agg (nums .u8 (six l)).toArray) ∧ Below w.heap.size w w' := by
  have HA := Lib.hid hA
  obtain ⟨b0, b1, b2, b3, b4, b5, b6, b7, b8, b9, b10, b11, b12, b13, b14, b15, h160⟩ := list16 (six l) (six_len l)
  have h16 := Lib.hid h160
  rw [show (nums .u8 (six l)).toArray = #[Value.int .u8 b0, Value.int .u8 b1, Value.int .u8 b2, Value.int .u8 b3, Value.int .u8 b4, Value.int .u8 b5, Value.int .u8 b6, Value.int .u8 b7, Value.int .u8 b8, Value.int .u8 b9, Value.int .u8 b10, Value.int .u8 b11, Value.int .u8 b12, Value.int .u8 b13, Value.int .u8 b14, Value.int .u8 b15] from by rw [h160]; rfl]
  clear hA h160
  go_enter Tryz.func14, Tryz.ntmps14
  go_wp2_with (with_reducible refine wpList_copy_splice rfl (.tmp 5) (.tmp 6) 27 27 rfl 5 Tryz.underlying27 (by kernel_rfl) (some ⟨w.heap.size + 1, 0, none⟩) A 16 16 l.length c rfl rfl (w.heap.size + 1) 0 (nums .u8 zer16) 28 ?hg (nums .u8 (l.take 16)) ?hn ?hpos ?hfit ?h1 (w.heap.size + 1) _ (Below.refl _ _) (Nat.le_refl _) ?_)
  case hg => exact blk_last _ _ _ (by simp)
  case hn => simp [nums]; exact Nat.min_comm _ _
  case hpos =>
    intro hp
    have hp' : 0 < l.length := by simp [nums] at hp; omega
    obtain ⟨b, o, rfl, hc⟩ := HA.out hp'
    refine ⟨⟨b, o, none⟩, rfl, fun j v hj => ?_⟩
    have hj2 : j < l.length := by
      have := (List.getElem?_eq_some_iff.1 hj).1
      simp [nums] at this
      omega
    have hv : v = .int .u8 (l.getD j 0) := by
      simp only [nums, List.getElem?_map] at hj
      obtain ⟨x, hx, rfl⟩ := Option.map_eq_some_iff.1 hj
      rw [List.getElem?_take] at hx
      split at hx
      · rw [List.getD_eq_getElem?_getD, hx]; rfl
      · cases hx
    rw [hv, add_place]
    exact pw_cell_below (below_alloc (below_alloc (Below.refl _ _) _) _) (hc j hj2)
  case hfit => simp [nums, zer16]; omega
  case h1 =>
    intro v hv
    obtain ⟨a, _, rfl⟩ := List.mem_map.1 (show v ∈ (l.take 16).map (Value.int .u8) from hv)
    rfl
  intro w' hg hb
  have hg1 : w'.heap[w.heap.size + 1]? = some (.cells (nums .u8 (six l)).toArray 28) := by
    have := hg.out
    rw [splice_six] at this
    exact this
  have hr1 : w'.heap[w.heap.size]? = some (.cells (nums .u8 zer16).toArray 28) := by
    rw [hb.block w.heap.size (by omega), heap_old _ _ _ (by simp)]
    exact blk_last _ _ _ rfl
  have HB := Lib.hid ((below_alloc (below_alloc (Below.refl w.heap.size w) _) _).trans (hb.mono (Nat.le_succ _)))
  rw [h16.out] at hg1
  have hlt := blk_lt' hr1
  have he : w' = put w' w.heap.size zer16 28 := (put_self hr1).symm
  have G : ∀ l k, (put w' w.heap.size l 28).cell? ⟨w.heap.size + 1, k, none⟩ = ([b0, b1, b2, b3, b4, b5, b6, b7, b8, b9, b10, b11, b12, b13, b14, b15][k]?).map (Value.int .u8) := fun l k => by
    simp only [World.cell?, put_other (show w.heap.size + 1 ≠ w.heap.size by omega), hg1]
    simp only [nums, Option.isSome_none, Bool.false_eq_true, if_false, List.getElem?_toArray, List.getElem?_map]
  obtain ⟨P, C, F⟩ := put_rules (T := 28) hlt
  rw [he]
  clear he hg hb hr1 hg1 h16 HA
  unfold zer16
  go_wp2
  refine bodyPost_ret (by simp [results, Tryz.results14, go_sem, C]; try rfl) rfl ?_
  exact ⟨rfl, HB.out.trans (put_below (Below.refl _ _) (Nat.le_refl _))⟩
end Go.Proofs.YtpemdpfageikfaaGreatDoor.R
/- spec.Begin: whether two addresses of 128 bits have the same first bits. -/
namespace Go.Proofs.YtpemdpfageikfaaGreatDoor.R
open Go.RowKit Go.Proofs.YtpemdpfageikfaaGreatDoorW.PrintWords Go.Proofs.YtpemdpfageikfaaGreatDoorW.PrintLast Go.Proofs.YtpemdpfageikfaaGreatDoorW.PrintMore

/-- Two bytes are the same at a bit, counted from the great ones on. -/
def sameBit (x y : Int) (j : Nat) : Bool := !(bits .and .u8 (bits .xor .u8 x y / 2 ^ (7 - j)) 1 == 1)
def sameBits (a b : List Int) (n : Nat) : Bool := (List.range n).all fun i => sameBit (a.getD (i / 8) 0) (b.getD (i / 8) 0) (i % 8)
theorem sameBits_succ (a b : List Int) (n : Nat) : sameBits a b (n + 1) = (sameBits a b n && sameBit (a.getD (n / 8) 0) (b.getD (n / 8) 0) (n % 8)) := by simp [sameBits, List.range_succ]
theorem sameBits_no {a b : List Int} {n k : Nat} (hk : k < n) (h : sameBit (a.getD (k / 8) 0) (b.getD (k / 8) 0) (k % 8) = false) : sameBits a b n = false := by
  unfold sameBits
  rw [Bool.eq_false_iff]
  intro he
  have := List.all_eq_true.1 he k (by simpa using hk)
  rw [h] at this
  cases this
set_option maxHeartbeats 1000000 in
theorem begin17 (a b : List Int) (n : Nat) (w : World) (ha : a.length = 16) (hb : b.length = 16) (hn : n ≤ 128) :
    Calls Tryz.prog 17 #[.agg (nums .u8 a).toArray, .agg (nums .u8 b).toArray, .int .i64 n] w fun e w' => e = .returned (.bool (sameBits a b n)) ∧ Below w.heap.size w w' := by
  have hca : ∀ (W : World), W.heap[w.heap.size]? = some (.cells (nums .u8 a).toArray 28) → ∀ j, j < 16 → W.cell? ⟨w.heap.size, j, none⟩ = some (.int .u8 (a.getD j 0)) := fun W h j hj => by
    simp [World.cell?, h, nums, ha, hj]
  have hcb : ∀ (W : World), W.heap[w.heap.size + 1]? = some (.cells (nums .u8 b).toArray 28) → ∀ j, j < 16 → W.cell? ⟨w.heap.size + 1, j, none⟩ = some (.int .u8 (b.getD j 0)) := fun W h j hj => by
    simp [World.cell?, h, nums, hb, hj]
  have sa : (nums .u8 a).toArray.size = 16 := by simp [nums, ha]
  have sb : (nums .u8 b).toArray.size = 16 := by simp [nums, hb]
  generalize (nums .u8 a).toArray = va at hca sa ⊢
  generalize (nums .u8 b).toArray = vb at hcb sb ⊢
  have HA := Lib.hid hca
  have HB := Lib.hid hcb
  clear hca hcb
  go_enter Tryz.func17, Tryz.ntmps17
  go_wp2
  have CA := Lib.hid (HA.out ((w.alloc (.cells va 28)).alloc (.cells vb 28)) (by rw [heap_old _ _ _ (by simp)]; exact blk_last _ _ _ rfl))
  have CB := Lib.hid (HB.out ((w.alloc (.cells va 28)).alloc (.cells vb 28)) (blk_last _ _ _ (by simp)))
  have HL := Lib.hid (below_alloc (below_alloc (Below.refl w.heap.size w) (.cells va 28)) (.cells vb 28))
  generalize (w.alloc (.cells va 28)).alloc (.cells vb 28) = W0 at CA CB HL ⊢
  clear HA HB
  go_loopw [9] (fun v wr => ∃ k m : Nat, k ≤ n ∧ v = .int .i64 k ∧ wr = W0.drewN m ∧ Hid (sameBits a b k = true)) (fun i _ => n - (intOf i).toNat)
  case atStart => exact ⟨0, 0, by omega, rfl, rfl, Lib.hid rfl⟩
  case round =>
    obtain ⟨k, m, hk, rfl, rfl, hs⟩ := hrel
    by_cases hlt : k < n
    · have ca := CA.out (k / 8) (by omega)
      have cb := CB.out (k / 8) (by omega)
      generalize ex : a.getD (k / 8) 0 = x at ca
      generalize ey : b.getD (k / 8) 0 = y at cb
      have EX := Lib.hid ex
      have EY := Lib.hid ey
      clear ex ey
      have hr8 : k % 8 < 8 := Nat.mod_lt _ (by omega)
      have hq16 : k / 8 < 16 := by omega
      obtain ⟨q, eq⟩ : ∃ q, k / 8 = q := ⟨_, rfl⟩
      obtain ⟨r, er⟩ : ∃ r, k % 8 = r := ⟨_, rfl⟩
      have hd : (k : Int).tdiv 8 = (q : Int) := by rw [← eq, Int.tdiv_eq_ediv_of_nonneg (by omega)]; omega
      have hm : (k : Int).tmod 8 = (r : Int) := by rw [← er, Int.tmod_eq_emod_of_nonneg (by omega)]; omega
      have hd2 : (k : Int) / 8 = (q : Int) := by omega
      have hm2 : (k : Int) % 8 = (r : Int) := by omega
      rw [eq] at ca cb hq16
      rw [er] at hr8
      have EQ := Lib.hid eq
      have ER := Lib.hid er
      clear eq er
      have h7 : (7 - (r : Int)).toNat = 7 - r := by omega
      have h70 : 0 ≤ 7 - (r : Int) := by omega
      by_cases ht : sameBit x y r = true
      · have t1 : (bits .and .u8 (bits .xor .u8 x y / 2 ^ (7 - r)) 1 == 1) = false := by simpa [sameBit] using ht
        have HT := Lib.hid ht
        clear ht
        go_wp2
        go_quiet (fail)
        go_wp2
        refine ⟨⟨k + 1, _, by omega, by go_num, rfl, ?_⟩, by simp [intOf]; omega⟩
        exact Lib.hid (by rw [sameBits_succ, hs.out, EX.out, EY.out, ER.out, HT.out]; rfl)
      · have t1 : (bits .and .u8 (bits .xor .u8 x y / 2 ^ (7 - r)) 1 == 1) = true := by simpa [sameBit] using ht
        have HT := Lib.hid (show sameBit x y r = false by simpa using ht)
        clear ht
        go_wp2
        go_quiet (fail)
        go_wp2
        go_ret
        exact ⟨ret_bool (sameBits_no hlt (by rw [EX.out, EY.out, ER.out]; exact HT.out)).symm, pw_below_drewN (pw_below_drewN HL.out _) _⟩
    · have hk4 := Lib.hid (show k = n by omega)
      go_wp2
      go_ret
      exact ⟨ret_bool (by have := hs.out; rw [hk4.out] at this; exact this.symm), pw_below_drewN HL.out m⟩
end Go.Proofs.YtpemdpfageikfaaGreatDoor.R
/- spec.hex: eight groups of four digits at most, with colons between. -/
namespace Go.Proofs.YtpemdpfageikfaaGreatDoor.R
open Go.RowKit Go.Proofs.YtpemdpfageikfaaGreatDoorW.PrintWords Go.Proofs.YtpemdpfageikfaaGreatDoorW.PrintLast Go.Proofs.YtpemdpfageikfaaGreatDoorW.PrintMore

/-- A digit. -/
def dg (d : Nat) : UInt8 := ([48, 49, 50, 51, 52, 53, 54, 55, 56, 57, 97, 98, 99, 100, 101, 102] : List UInt8).getD d 48
/-- A number's digits; none for 0. -/
def hexR (n : Nat) : List UInt8 := if h : n = 0 then [] else hexR (n / 16) ++ [dg (n % 16)]
termination_by n
decreasing_by omega
/-- A number's digits. -/
def hexL (n : Nat) : List UInt8 := hexR (n / 16) ++ [dg (n % 16)]
theorem hexR_pos {n : Nat} (h : 0 < n) : hexR n = hexL n := by
  rw [hexR, dif_neg (by omega)]
  rfl
theorem hexR_len : ∀ (m n : Nat), n < 16 ^ m → (hexR n).length ≤ m
  | 0, n, h => by
    obtain rfl : n = 0 := by simpa using h
    rw [hexR, dif_pos rfl]; simp
  | m + 1, n, h => by
    by_cases h0 : n = 0
    · subst h0; rw [hexR, dif_pos rfl]; simp
    · rw [hexR, dif_neg h0, List.length_append, List.length_singleton]
      have := hexR_len m (n / 16) (by rw [Nat.pow_succ] at h; omega)
      omega
theorem hexL_len {n : Nat} (h : n < 65536) : (hexL n).length ≤ 4 := by
  have := hexR_len 3 (n / 16) (by show n / 16 < 4096; omega)
  rw [hexL, List.length_append, List.length_singleton]
  omega
/-- A group of two bytes. -/
def grp (a : List Int) (k : Nat) : Nat := (a.getD (2 * k) 0).toNat * 256 + (a.getD (2 * k + 1) 0).toNat
/-- The first k groups. -/
def outK (a : List Int) : Nat → List UInt8
  | 0 => []
  | k + 1 => (if 0 < k then outK a k ++ [58] else outK a k) ++ hexL (grp a k)
theorem grp_lt {a : List Int} (h : ∀ x ∈ a, 0 ≤ x ∧ x ≤ 255) (k : Nat) : grp a k < 65536 := by
  have key : ∀ j, (a.getD j 0).toNat ≤ 255 := fun j => by
    rw [List.getD_eq_getElem?_getD]
    cases e : a[j]? with
    | none => simp
    | some x =>
      have := h x (List.mem_of_getElem? e)
      simp
      omega
  have h1 := key (2 * k)
  have h2 := key (2 * k + 1)
  unfold grp
  omega
theorem outK_len {a : List Int} (h : ∀ x ∈ a, 0 ≤ x ∧ x ≤ 255) : ∀ k, (outK a k).length ≤ 5 * k
  | 0 => by simp [outK]
  | k + 1 => by
    have h1 := outK_len h k
    have h2 := hexL_len (grp_lt h k)
    rw [outK, List.length_append]
    split <;> simp <;> omega
theorem dig_one (r : Nat) (h : r < 16) : (⟨#[48, 49, 50, 51, 52, 53, 54, 55, 56, 57, 97, 98, 99, 100, 101, 102]⟩ : ByteArray).extract r (r + 1) = bA [dg r] :=
  match r, h with
  | 0, _ => rfl
  | 1, _ => rfl
  | 2, _ => rfl
  | 3, _ => rfl
  | 4, _ => rfl
  | 5, _ => rfl
  | 6, _ => rfl
  | 7, _ => rfl
  | 8, _ => rfl
  | 9, _ => rfl
  | 10, _ => rfl
  | 11, _ => rfl
  | 12, _ => rfl
  | 13, _ => rfl
  | 14, _ => rfl
  | 15, _ => rfl
  | r + 16, h => absurd h (by omega)
theorem dig_cons (n : Nat) (g : List UInt8) : (⟨#[48, 49, 50, 51, 52, 53, 54, 55, 56, 57, 97, 98, 99, 100, 101, 102]⟩ : ByteArray).extract (n % 16) (n % 16 + 1) ++ bA g = bA (dg (n % 16) :: g) := by
  rw [dig_one _ (Nat.mod_lt _ (by omega))]
  apply bA_ext
  simp [bA_list]
/-- 1 at the empty text. -/
def emp : Value → Nat
  | .string s => if s.size = 0 then 1 else 0
  | _ => 0
theorem i64_or_nat (a b : Nat) (ha : a < 4294967296) (hb : b < 4294967296) : bits .or .i64 (a : Int) (b : Int) = ((a ||| b : Nat) : Int) := by
  have hx : a ||| b < 2 ^ 32 := Nat.or_lt_two_pow (by omega) (by omega)
  show IntKind.i64.wrap ((BitVec.ofInt 64 (a : Int) ||| BitVec.ofInt 64 (b : Int)).toNat : Int) = _
  rw [BitVec.toNat_or, ofInt_u64 a (by omega), ofInt_u64 b (by omega), IntKind.wrap_i64]
  omega
theorem or_bytes (x y : Int) (hx0 : 0 ≤ x) (hx1 : x ≤ 255) (hy0 : 0 ≤ y) (hy1 : y ≤ 255) : bits .or .i64 (x * 256) y = x * 256 + y := by
  obtain ⟨A, rfl⟩ := Int.eq_ofNat_of_zero_le hx0
  obtain ⟨B, rfl⟩ := Int.eq_ofNat_of_zero_le hy0
  rw [show ((A : Int) * 256) = ((A * 256 : Nat) : Int) from by omega, i64_or_nat (A * 256) B (by omega) (by omega), nat_join 8 (A * 256) B (by omega) (by omega)]
  omega
set_option maxHeartbeats 2000000 in
theorem hex31 (a : List Int) (w : World) (ha : a.length = 16) (hby : ∀ x ∈ a, 0 ≤ x ∧ x ≤ 255) :
    Calls Tryz.prog 31 #[.agg (nums .u8 a).toArray] w fun e w' => e = .returned (.string (bA (outK a 8))) ∧ Below w.heap.size w w' := by
  have hca : ∀ (W : World), W.heap[w.heap.size]? = some (.cells (nums .u8 a).toArray 28) → ∀ j, j < 16 → W.cell? ⟨w.heap.size, j, none⟩ = some (.int .u8 (a.getD j 0)) := fun W h j hj => by
    simp [World.cell?, h, nums, ha, hj]
  have sa : (nums .u8 a).toArray.size = 16 := by simp [nums, ha]
  have hrg : ∀ j, 0 ≤ a.getD j 0 ∧ a.getD j 0 ≤ 255 := fun j => by
    rw [List.getD_eq_getElem?_getD]
    cases e : a[j]? with
    | none => simp
    | some x => simpa using hby x (List.mem_of_getElem? e)
  generalize (nums .u8 a).toArray = va at hca sa ⊢
  have HA := Lib.hid hca
  have HR := Lib.hid hrg
  have HBY := Lib.hid hby
  clear hca hrg hby
  go_enter Tryz.func31, Tryz.ntmps31
  go_wp2
  have CA := Lib.hid (HA.out (w.alloc (.cells va 28)) (blk_last _ _ _ rfl))
  have HL := Lib.hid (below_alloc (Below.refl w.heap.size w) (.cells va 28))
  generalize w.alloc (.cells va 28) = W0 at CA HL ⊢
  clear HA
  go_loopw [3, 4] (fun v3 v4 wr => ∃ k m : Nat, k ≤ 8 ∧ v3 = .string (bA (outK a k)) ∧ v4 = .int .i64 ((2 * k : Nat) : Int) ∧ wr = W0.drewN m) (fun _ i _ => 16 - (intOf i).toNat)
  case atStart => exact ⟨0, 0, by omega, rfl, rfl, rfl⟩
  case round =>
    obtain ⟨k, m, hk, rfl, rfl, rfl⟩ := hrel
    by_cases hlt : k < 8
    · have ca := CA.out (2 * k) (by omega)
      have cb := CA.out (2 * k + 1) (by omega)
      have r1 := HR.out (2 * k)
      have r2 := HR.out (2 * k + 1)
      have eg : grp a k = (a.getD (2 * k) 0).toNat * 256 + (a.getD (2 * k + 1) 0).toNat := rfl
      generalize a.getD (2 * k) 0 = x at ca r1 eg
      generalize a.getD (2 * k + 1) 0 = y at cb r2 eg
      obtain ⟨r10, r11⟩ := r1
      obtain ⟨r20, r21⟩ := r2
      have hor := or_bytes x y r10 r11 r20 r21
      go_upto_region 5 with fail
      go_quiet (fail)
      have e5 : x * 256 + y = ((grp a k : Nat) : Int) := by omega
      rw [e5]
      have hG := grp_lt HBY.out k
      have hOL := outK_len HBY.out k
      have hON : outK a (k + 1) = (if 0 < k then outK a k ++ [58] else outK a k) ++ hexL (grp a k) := rfl
      have HON := Lib.hid hON
      clear hON e5 eg hor ca cb r10 r11 r20 r21
      generalize grp a k = G at hG HON ⊢
      generalize outK a k = O at hOL HON ⊢
      have HG := Lib.hid (hexL_len hG)
      obtain ⟨mm, hmm⟩ : ∃ mm, W0.drewN mm = (W0.drewN m).drewN nq := ⟨_, (World.drewN_drewN ..).symm⟩
      rw [← hmm]
      clear hmm
      go_wp2
      rw [show ((2 * k : Nat) : Int) = 2 * (k : Int) from by omega, decide_eq_true (show 2 * (k : Int) < 16 by omega)]
      go_loopw [5, 6] (fun v5 v6 wr => ∃ (n : Nat) (g : List UInt8), v5 = .int .i64 n ∧ v6 = .string (bA g) ∧ n ≤ 65535 ∧ g.length ≤ 4 ∧ wr = W0.drewN mm ∧ Hid ((g = [] ∧ n = G) ∨ (g ≠ [] ∧ hexR n ++ g = hexL G))) (fun n g _ => 2 * (intOf n).toNat + emp g)
      case atStart => exact ⟨G, [], rfl, rfl, by omega, by simp, rfl, Lib.hid (Or.inl ⟨rfl, rfl⟩)⟩
      case round =>
        obtain ⟨n, g, rfl, rfl, hn, hgl, rfl, hg⟩ := hrel
        have sg : (bA g).size = g.length := bA_size g
        by_cases h0 : 0 < n
        · go_wp2
          refine ⟨⟨n / 16, dg (n % 16) :: g, by go_num, congrArg Value.string (dig_cons n g), by omega, ?_, trivial, Lib.hid ?_⟩, by simp [intOf, emp, dig_cons, bA_size]; omega⟩
          · rcases hg.out with ⟨rfl, _⟩ | ⟨_, e⟩
            · simp
            · have := congrArg List.length e
              rw [hexR_pos h0, hexL] at this
              have h4 := HG.out
              simp at this ⊢
              omega
          · right
            refine ⟨by simp, ?_⟩
            rcases hg.out with ⟨rfl, rfl⟩ | ⟨_, e⟩
            · rfl
            · rw [← e, hexR_pos h0, hexL, List.append_assoc]
              rfl
        · obtain rfl : n = 0 := by omega
          by_cases hg0 : g = []
          · subst hg0
            clear h0
            have hz : (bA []).toList.isEmpty = true := by rw [bA_toList]; rfl
            go_wp2
            refine ⟨⟨0, [dg 0], by go_num, congrArg Value.string (dig_cons 0 []), by omega, by simp, trivial, Lib.hid ?_⟩, by have e := dig_cons 0 []; simp only [Nat.zero_mod, Nat.zero_add] at e; simp [intOf, emp, e, bA_size]⟩
            right
            refine ⟨by simp, ?_⟩
            rcases hg.out with ⟨_, e⟩ | ⟨e, _⟩
            · rw [← e]; rfl
            · exact absurd rfl e
          · have hz : (bA g).toList.isEmpty = false := by rw [bA_toList]; simpa using hg0
            have hfin : g = hexL G := by
              rcases hg.out with ⟨e, _⟩ | ⟨_, e⟩
              · exact absurd e hg0
              · rw [← e, hexR, dif_pos rfl]; rfl
            have HF := Lib.hid hfin
            clear h0 hg0 hg hfin
            have s1 : (bA O).size = O.length := bA_size O
            have s2 : (bA O ++ (⟨#[58]⟩ : ByteArray)).size = O.length + 1 := by rw [ByteArray.size_append, bA_size]; rfl
            by_cases hk0 : 0 < k
            · go_wp2
              refine ⟨⟨k + 1, _, by omega, congrArg Value.string ?_, by go_num, rfl⟩, by simp [intOf]; omega⟩
              rw [HON.out, if_pos hk0, ← HF.out]
              apply bA_ext
              simp [bA_list]
            · obtain rfl : k = 0 := by omega
              go_wp2
              refine ⟨⟨0 + 1, _, by omega, congrArg Value.string ?_, by go_num, rfl⟩, by simp [intOf]⟩
              rw [HON.out, if_neg (by omega), ← HF.out]
              apply bA_ext
              simp [bA_list]
    · obtain rfl : k = 8 := by omega
      go_wp2
      go_ret
      exact ⟨rfl, pw_below_drewN HL.out m⟩
end Go.Proofs.YtpemdpfageikfaaGreatDoor.R
/- spec.SixText, SixAddr, IsPlain. -/
namespace Go.Proofs.YtpemdpfageikfaaGreatDoor.R
open Go.RowKit Go.Proofs.YtpemdpfageikfaaGreatDoorW.PrintWords Go.Proofs.YtpemdpfageikfaaGreatDoorW.PrintLast Go.Proofs.YtpemdpfageikfaaGreatDoorW.PrintMore

/-- A decimal digit. -/
def dd (n : Nat) : UInt8 := UInt8.ofNat (48 + n % 10)
/-- A number's decimal digits; none for 0. -/
def decR (n : Nat) : List UInt8 := if h : n = 0 then [] else decR (n / 10) ++ [dd n]
termination_by n
decreasing_by omega
def decL (n : Nat) : List UInt8 := decR (n / 10) ++ [dd n]
theorem decR_pos {n : Nat} (h : 0 < n) : decR n = decL n := by
  rw [decR, dif_neg (by omega)]
  rfl
theorem decR_len : ∀ (m n : Nat), n < 10 ^ m → (decR n).length ≤ m
  | 0, n, h => by
    obtain rfl : n = 0 := by simpa using h
    rw [decR, dif_pos rfl]; simp
  | m + 1, n, h => by
    by_cases h0 : n = 0
    · subst h0; rw [decR, dif_pos rfl]; simp
    · rw [decR, dif_neg h0, List.length_append, List.length_singleton]
      have := decR_len m (n / 10) (by rw [Nat.pow_succ] at h; omega)
      omega
theorem decL_len {n : Nat} (h : n < 1000) : (decL n).length ≤ 3 := by
  have := decR_len 2 (n / 10) (by show n / 10 < 100; omega)
  rw [decL, List.length_append, List.length_singleton]
  omega
/-- An entry for an address of 128 bits. -/
def sixT (a : List Int) (n : Nat) : List UInt8 := if n ≤ 128 then outK a 8 ++ [47] ++ decL n else outK a 8
def sixA (a : List Int) (p : ByteArray) : ByteArray := (⟨#[91]⟩ : ByteArray) ++ bA (outK a 8) ++ (⟨#[93, 58]⟩ : ByteArray) ++ p
set_option maxHeartbeats 2000000 in
theorem sixAddr20 (b0 b1 b2 b3 b4 b5 b6 b7 b8 b9 b10 b11 b12 b13 b14 b15 : Int) (p : ByteArray) (w : World) (hby : ∀ x ∈ [b0, b1, b2, b3, b4, b5, b6, b7, b8, b9, b10, b11, b12, b13, b14, b15], 0 ≤ x ∧ x ≤ 255) (hp : p.size ≤ 1000) :
    Calls Tryz.prog 20 #[.agg #[.int .u8 b0, .int .u8 b1, .int .u8 b2, .int .u8 b3, .int .u8 b4, .int .u8 b5, .int .u8 b6, .int .u8 b7, .int .u8 b8, .int .u8 b9, .int .u8 b10, .int .u8 b11, .int .u8 b12, .int .u8 b13, .int .u8 b14, .int .u8 b15], .string p] w fun e w' => e = .returned (.string (sixA [b0, b1, b2, b3, b4, b5, b6, b7, b8, b9, b10, b11, b12, b13, b14, b15] p)) ∧ Below w.heap.size w w' := by
  have H := Lib.hid (fun W => hex31 [b0, b1, b2, b3, b4, b5, b6, b7, b8, b9, b10, b11, b12, b13, b14, b15] W rfl hby)
  have hO := outK_len hby 8
  unfold sixA
  generalize outK [b0, b1, b2, b3, b4, b5, b6, b7, b8, b9, b10, b11, b12, b13, b14, b15] 8 = O at H hO ⊢
  have s1 : (bA O).size = O.length := bA_size O
  have s2 : ((⟨#[91]⟩ : ByteArray) ++ bA O).size = 1 + O.length := by rw [ByteArray.size_append, bA_size]; rfl
  have s3 : ((⟨#[91]⟩ : ByteArray) ++ bA O ++ (⟨#[93, 58]⟩ : ByteArray)).size = 1 + O.length + 2 := by rw [ByteArray.size_append, s2]; rfl
  go_enter Tryz.func20, Tryz.ntmps20
  go_wp2_with fail
  refine (H.out _).mono ?_
  rintro e w1 ⟨rfl, hb⟩
  have HB := Lib.hid (blw (show Below w.heap.size w _ from by go_grown) hb)
  clear hb
  go_wp2
  go_ret
  exact ⟨rfl, HB.out⟩
set_option maxHeartbeats 2000000 in
theorem isPlain15 (b0 b1 b2 b3 b4 b5 b6 b7 b8 b9 b10 b11 b12 b13 b14 b15 : Int) (w : World) :
    Calls Tryz.prog 15 #[.agg #[.int .u8 b0, .int .u8 b1, .int .u8 b2, .int .u8 b3, .int .u8 b4, .int .u8 b5, .int .u8 b6, .int .u8 b7, .int .u8 b8, .int .u8 b9, .int .u8 b10, .int .u8 b11, .int .u8 b12, .int .u8 b13, .int .u8 b14, .int .u8 b15]] w fun e w' => e = .returned (.bool (!sameBits [b0, b1, b2, b3, b4, b5, b6, b7, b8, b9, b10, b11, b12, b13, b14, b15] zer16 80)) ∧ Below w.heap.size w w' := by
  have H := Lib.hid (fun W => begin17 [b0, b1, b2, b3, b4, b5, b6, b7, b8, b9, b10, b11, b12, b13, b14, b15] zer16 80 W rfl rfl (by omega))
  generalize sameBits [b0, b1, b2, b3, b4, b5, b6, b7, b8, b9, b10, b11, b12, b13, b14, b15] zer16 80 = r at H ⊢
  go_enter Tryz.func15, Tryz.ntmps15
  go_wp2_with fail
  refine (H.out _).mono ?_
  rintro e w1 ⟨rfl, hb⟩
  have HB := Lib.hid (blw (show Below w.heap.size w _ from by go_grown) hb)
  clear hb
  go_wp2
  go_ret
  exact ⟨rfl, HB.out⟩
end Go.Proofs.YtpemdpfageikfaaGreatDoor.R
