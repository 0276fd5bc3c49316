/- Plain laws: 128 bits. -/
import Derived.Test.YtpemdpfageikfaaGreatDoorZR
import Derived.Test.YtpemdpfageikfaaGreatDoorZM
import Derived.Test.YtpemdpfageikfaaGreatDoorZQf
import Derived.Test.YtpemdpfageikfaaGreatDoorZA
set_option linter.unusedVariables false
set_option linter.unusedSimpArgs false
/- Plain laws: the first bits of sixteen bytes, bit by bit as byte by byte. -/
namespace Go.Proofs.YtpemdpfageikfaaGreatDoor.R
open Go.RowKit Go.Proofs.YtpemdpfageikfaaGreatDoorW.PrintWords Go.Proofs.YtpemdpfageikfaaGreatDoorW.PrintLast Go.Proofs.YtpemdpfageikfaaGreatDoorW.PrintMore

theorem xor_bit (x y s : Nat) : ((x ^^^ y) / 2 ^ s % 2 == 1) = !(x / 2 ^ s % 2 == y / 2 ^ s % 2) := by
  have h := Nat.testBit_xor x y s
  rw [Nat.testBit_eq_decide_div_mod_eq, Nat.testBit_eq_decide_div_mod_eq, Nat.testBit_eq_decide_div_mod_eq] at h
  have h1 : x / 2 ^ s % 2 = 0 ∨ x / 2 ^ s % 2 = 1 := by omega
  have h2 : y / 2 ^ s % 2 = 0 ∨ y / 2 ^ s % 2 = 1 := by omega
  have h3 : ((x ^^^ y) / 2 ^ s % 2 == 1) = decide ((x ^^^ y) / 2 ^ s % 2 = 1) := rfl
  rw [h3, h]
  rcases h1 with h1 | h1 <;> rcases h2 with h2 | h2 <;> rw [h1, h2] <;> rfl
theorem same_bit (x y : Nat) (hx : x < 256) (hy : y < 256) (j : Nat) : sameBit (x : Int) (y : Int) j = (x / 2 ^ (7 - j) % 2 == y / 2 ^ (7 - j) % 2) := by
  unfold sameBit
  have hxy : x ^^^ y < 256 := Nat.xor_lt_two_pow (n := 8) hx hy
  rw [u8_xor _ _ (by omega) (by omega) (by omega) (by omega), Int.toNat_natCast, Int.toNat_natCast]
  have hd : ((x ^^^ y : Nat) : Int) / 2 ^ (7 - j) = (((x ^^^ y) / 2 ^ (7 - j) : Nat) : Int) := by
    rw [Int.natCast_ediv, Int.natCast_pow]; rfl
  have hlt : (x ^^^ y) / 2 ^ (7 - j) < 256 := Nat.lt_of_le_of_lt (Nat.div_le_self _ _) hxy
  rw [hd, ← Bool.not_not (x / 2 ^ (7 - j) % 2 == y / 2 ^ (7 - j) % 2), ← xor_bit]
  generalize (x ^^^ y) / 2 ^ (7 - j) = D at hlt ⊢
  rw [u8_and _ _ (by omega) (by omega) (by omega) (by omega), Int.toNat_natCast, show (1 : Int).toNat = 1 from rfl, Nat.and_one_is_mod]
  congr 1
  rw [Bool.eq_iff_iff, beq_iff_eq, beq_iff_eq]
  omega
theorem byte_bits (a b : Nat) (ha : a < 256) (hb : b < 256) : ∀ m, m ≤ 8 → (a / 2 ^ (8 - m) = b / 2 ^ (8 - m) ↔ ∀ j, j < m → a / 2 ^ (7 - j) % 2 = b / 2 ^ (7 - j) % 2)
  | 0, _ => by
    rw [show a / 2 ^ (8 - 0) = 0 from Nat.div_eq_of_lt (by simpa using ha), show b / 2 ^ (8 - 0) = 0 from Nat.div_eq_of_lt (by simpa using hb)]
    exact ⟨fun _ j hj => by omega, fun _ => rfl⟩
  | m + 1, h => by
    have ih := byte_bits a b ha hb m (by omega)
    have e : 8 - m = (7 - m) + 1 := by omega
    have e2 : 8 - (m + 1) = 7 - m := by omega
    rw [e, Nat.pow_succ, ← Nat.div_div_eq_div_mul, ← Nat.div_div_eq_div_mul] at ih
    rw [e2]
    constructor
    · intro h1 j hj
      by_cases hjm : j = m
      · subst hjm; rw [h1]
      · exact ih.1 (by rw [h1]) j (by omega)
    · intro h1
      have h2 := ih.2 fun j hj => h1 j (by omega)
      have h3 := h1 m (by omega)
      omega
theorem sameBits_pre : ∀ (l m : List Nat) (n : Nat), l.length = m.length → (∀ x ∈ l, x < 256) → (∀ x ∈ m, x < 256) → n ≤ 8 * l.length → sameBits (ints l) (ints m) n = eqPre n l m
  | [], m, n, _, _, _, hn => by
    obtain rfl : n = 0 := by simpa using hn
    cases m <;> rfl
  | a :: l, [], n, h, _, _, _ => by simp at h
  | a :: l, b :: m, n, h, h1, h2, hn => by
    have ih := sameBits_pre l m (n - 8) (by simpa using h) (fun x hx => h1 x (by simp [hx])) (fun x hx => h2 x (by simp [hx])) (by simp at hn; omega)
    have ha := h1 a (by simp)
    have hb := h2 b (by simp)
    rw [eqPre, ← ih]
    have key := byte_bits a b ha hb (min n 8) (by omega)
    rw [show 8 - min n 8 = 8 - n from by omega] at key
    rw [Bool.eq_iff_iff, Bool.and_eq_true, beq_iff_eq, key]
    unfold sameBits
    rw [List.all_eq_true, List.all_eq_true]
    have g0 : ∀ (c : Nat) (t : List Nat) (i : Nat), i < 8 → (ints (c :: t)).getD (i / 8) 0 = (c : Int) := fun c t i hi => by
      rw [show i / 8 = 0 from by omega]; rfl
    have g1 : ∀ (c : Nat) (t : List Nat) (i : Nat), (ints (c :: t)).getD ((i + 8) / 8) 0 = (ints t).getD (i / 8) 0 := fun c t i => by
      rw [show (i + 8) / 8 = i / 8 + 1 from by omega]; rfl
    constructor
    · intro hall
      refine ⟨fun j hj => ?_, fun i hi => ?_⟩
      · have := hall j (by simp; omega)
        rw [g0 _ _ _ (by omega), g0 _ _ _ (by omega), same_bit a b ha hb, beq_iff_eq, show j % 8 = j from by omega] at this
        exact this
      · have hi' : i < n - 8 := by simpa using hi
        have := hall (i + 8) (by simp; omega)
        rw [g1, g1, show (i + 8) % 8 = i % 8 from by omega] at this
        exact this
    · rintro ⟨h3, h4⟩ i hi
      have hi' : i < n := by simpa using hi
      by_cases h8 : i < 8
      · rw [g0 _ _ _ h8, g0 _ _ _ h8, same_bit a b ha hb, beq_iff_eq, show i % 8 = i from by omega]
        exact h3 i (by omega)
      · obtain ⟨j, rfl⟩ : ∃ j, i = j + 8 := ⟨i - 8, by omega⟩
        rw [g1, g1, show (j + 8) % 8 = j % 8 from by omega]
        exact h4 j (by simp; omega)
end Go.Proofs.YtpemdpfageikfaaGreatDoor.R
/- Plain laws: the text of an address of 128 bits, read back. -/
namespace Go.Proofs.YtpemdpfageikfaaGreatDoor.R
open Go.RowKit Go.Proofs.YtpemdpfageikfaaGreatDoorW.PrintWords Go.Proofs.YtpemdpfageikfaaGreatDoorW.PrintLast Go.Proofs.YtpemdpfageikfaaGreatDoorW.PrintMore

theorem dg_val (d : Nat) (h : d < 16) : (dg d).toNat = if d < 10 then 48 + d else 87 + d :=
  match d, h with
  | 0, _ => rfl
  | 1, _ => rfl
  | 2, _ => rfl
  | 3, _ => rfl
  | 4, _ => rfl
  | 5, _ => rfl
  | 6, _ => rfl
  | 7, _ => rfl
  | 8, _ => rfl
  | 9, _ => rfl
  | 10, _ => rfl
  | 11, _ => rfl
  | 12, _ => rfl
  | 13, _ => rfl
  | 14, _ => rfl
  | 15, _ => rfl
  | r + 16, h => absurd h (by omega)
/-- A small hexadecimal digit. -/
def HexB (x : UInt8) : Prop := (48 ≤ x.toNat ∧ x.toNat ≤ 57) ∨ (97 ≤ x.toNat ∧ x.toNat ≤ 102)
theorem dg_hex (d : Nat) (h : d < 16) : HexB (dg d) := by
  have := dg_val d h
  unfold HexB
  split at this <;> omega
theorem dig_dg (d : Nat) (h : d < 16) : dig (dg d).toNat = some d := by
  have := dg_val d h
  unfold dig
  split at this
  · rw [if_pos (by omega)]; congr 1; omega
  · rw [if_neg (by omega), if_pos (by omega)]; congr 1; omega
theorem hexR_mem : ∀ (m n : Nat), n < 16 ^ m → ∀ x ∈ hexR n, HexB x
  | 0, n, h, x, hx => by
    obtain rfl : n = 0 := by simpa using h
    rw [hexR, dif_pos rfl] at hx
    simp at hx
  | m + 1, n, h, x, hx => by
    by_cases h0 : n = 0
    · subst h0; rw [hexR, dif_pos rfl] at hx; simp at hx
    · rw [hexR, dif_neg h0] at hx
      rcases List.mem_append.1 hx with hx | hx
      · exact hexR_mem m (n / 16) (by rw [Nat.pow_succ] at h; omega) x hx
      · simp at hx; subst hx; exact dg_hex _ (Nat.mod_lt _ (by omega))
theorem hexL_mem {g : Nat} (h : g < 65536) : ∀ x ∈ hexL g, HexB x := by
  intro x hx
  rw [hexL] at hx
  rcases List.mem_append.1 hx with hx | hx
  · exact hexR_mem 3 (g / 16) (by show g / 16 < 4096; omega) x hx
  · simp at hx; subst hx; exact dg_hex _ (Nat.mod_lt _ (by omega))
theorem hexL_ne (g : Nat) : hexL g ≠ [] := by rw [hexL]; simp
theorem hx_hexR : ∀ (m n : Nat) (r : List UInt8), n < 16 ^ m → m ≤ 4 → n ≤ 65535 → hx (hexR n ++ r) 0 0 = hx r (hexR n).length n
  | 0, n, r, h, _, _ => by
    obtain rfl : n = 0 := by simpa using h
    rw [hexR, dif_pos rfl]; rfl
  | m + 1, n, r, h, hm, hn => by
    by_cases h0 : n = 0
    · subst h0; rw [hexR, dif_pos rfl]; rfl
    · have hlt : n / 16 < 16 ^ m := by rw [Nat.pow_succ] at h; omega
      have hl := hexR_len m (n / 16) hlt
      rw [hexR, dif_neg h0, List.append_assoc, hx_hexR m (n / 16) _ hlt (by omega) (by omega), List.singleton_append, hx, dig_dg _ (Nat.mod_lt _ (by omega))]
      simp only
      rw [if_neg (by omega), if_neg (by omega), List.length_append, List.length_singleton, show n / 16 * 16 + n % 16 = n from by omega]
theorem hx_hexL (g : Nat) (r : List UInt8) (h : g < 65536) : hx (hexL g ++ r) 0 0 = hx r (hexL g).length g := by
  by_cases h0 : g = 0
  · subst h0
    have e : hexL 0 = [dg 0] := by rw [hexL, hexR, dif_pos rfl]; rfl
    rw [e, List.singleton_append, hx, dig_dg 0 (by omega)]
    rfl
  · rw [← hexR_pos (by omega)]
    exact hx_hexR 4 g r h (by omega) (by omega)
/-- Groups with colons between. -/
def tailG : List Nat → List UInt8
  | [] => []
  | [g] => hexL g
  | g :: h :: t => hexL g ++ 58 :: tailG (h :: t)
theorem tailG_ne (g : Nat) (t : List Nat) : tailG (g :: t) ≠ [] := by
  cases t with
  | nil => exact hexL_ne g
  | cons h t => rw [tailG]; simp
theorem outK_tail (a : List Int) : outK a 8 = tailG [grp a 0, grp a 1, grp a 2, grp a 3, grp a 4, grp a 5, grp a 6, grp a 7] := by
  simp [outK, tailG, List.append_assoc]
theorem g6_last (g : Nat) (bs : List Int) (h : g < 65536) : g6 1 (tailG [g]) bs = some ((bs.set 14 ((g / 256 : Nat) : Int)).set 15 ((g % 256 : Nat) : Int)) := by
  have e := hx_hexL g [] h
  rw [List.append_nil] at e
  rw [g6, tailG, e, hx]
  simp only
  rw [if_neg (by have := hexL_ne g; rw [List.length_eq_zero_iff]; exact this), List.drop_length]
  rfl
theorem g6_cons (k g h : Nat) (t : List Nat) (bs : List Int) (hg : g < 65536) : g6 (k + 1) (tailG (g :: h :: t)) bs = g6 k (tailG (h :: t)) ((bs.set (14 - 2 * k) ((g / 256 : Nat) : Int)).set (15 - 2 * k) ((g % 256 : Nat) : Int)) := by
  rw [g6, tailG, hx_hexL g _ hg, hx, show dig (58 : UInt8).toNat = none from rfl]
  simp only
  rw [if_neg (by have := hexL_ne g; rw [List.length_eq_zero_iff]; exact this), List.drop_left]
  simp only
  rw [if_pos (show UInt8.toNat 58 = 58 from rfl), if_neg (tailG_ne h t)]
/-- The groups read back are the bytes. -/
theorem g6_out (a : List Nat) (hl : a.length = 16) (hb : ∀ x ∈ a, x ≤ 255) (bs : List Int) (hbs : bs.length = 16) : g6 8 (outK (ints a) 8) bs = some (ints a) := by
  match a, hl with
  | [a0, a1, a2, a3, a4, a5, a6, a7, a8, a9, a10, a11, a12, a13, a14, a15], _ =>
    match bs, hbs with
    | [_, _, _, _, _, _, _, _, _, _, _, _, _, _, _, _], _ =>
      have q0 := hb a0 (by simp)
      have q1 := hb a1 (by simp)
      have q2 := hb a2 (by simp)
      have q3 := hb a3 (by simp)
      have q4 := hb a4 (by simp)
      have q5 := hb a5 (by simp)
      have q6 := hb a6 (by simp)
      have q7 := hb a7 (by simp)
      have q8 := hb a8 (by simp)
      have q9 := hb a9 (by simp)
      have q10 := hb a10 (by simp)
      have q11 := hb a11 (by simp)
      have q12 := hb a12 (by simp)
      have q13 := hb a13 (by simp)
      have q14 := hb a14 (by simp)
      have q15 := hb a15 (by simp)
      rw [outK_tail]
      have e0 : grp (ints [a0, a1, a2, a3, a4, a5, a6, a7, a8, a9, a10, a11, a12, a13, a14, a15]) 0 = a0 * 256 + a1 := rfl
      have e1 : grp (ints [a0, a1, a2, a3, a4, a5, a6, a7, a8, a9, a10, a11, a12, a13, a14, a15]) 1 = a2 * 256 + a3 := rfl
      have e2 : grp (ints [a0, a1, a2, a3, a4, a5, a6, a7, a8, a9, a10, a11, a12, a13, a14, a15]) 2 = a4 * 256 + a5 := rfl
      have e3 : grp (ints [a0, a1, a2, a3, a4, a5, a6, a7, a8, a9, a10, a11, a12, a13, a14, a15]) 3 = a6 * 256 + a7 := rfl
      have e4 : grp (ints [a0, a1, a2, a3, a4, a5, a6, a7, a8, a9, a10, a11, a12, a13, a14, a15]) 4 = a8 * 256 + a9 := rfl
      have e5 : grp (ints [a0, a1, a2, a3, a4, a5, a6, a7, a8, a9, a10, a11, a12, a13, a14, a15]) 5 = a10 * 256 + a11 := rfl
      have e6 : grp (ints [a0, a1, a2, a3, a4, a5, a6, a7, a8, a9, a10, a11, a12, a13, a14, a15]) 6 = a12 * 256 + a13 := rfl
      have e7 : grp (ints [a0, a1, a2, a3, a4, a5, a6, a7, a8, a9, a10, a11, a12, a13, a14, a15]) 7 = a14 * 256 + a15 := rfl
      rw [e0, e1, e2, e3, e4, e5, e6, e7]
      rw [g6_cons 7 _ _ _ _ (by omega), g6_cons 6 _ _ _ _ (by omega), g6_cons 5 _ _ _ _ (by omega), g6_cons 4 _ _ _ _ (by omega), g6_cons 3 _ _ _ _ (by omega), g6_cons 2 _ _ _ _ (by omega), g6_cons 1 _ _ _ _ (by omega), g6_last _ _ (by omega)]
      rw [show (a0 * 256 + a1) / 256 = a0 from by omega, show (a0 * 256 + a1) % 256 = a1 from by omega, show (a2 * 256 + a3) / 256 = a2 from by omega, show (a2 * 256 + a3) % 256 = a3 from by omega,
        show (a4 * 256 + a5) / 256 = a4 from by omega, show (a4 * 256 + a5) % 256 = a5 from by omega, show (a6 * 256 + a7) / 256 = a6 from by omega, show (a6 * 256 + a7) % 256 = a7 from by omega,
        show (a8 * 256 + a9) / 256 = a8 from by omega, show (a8 * 256 + a9) % 256 = a9 from by omega, show (a10 * 256 + a11) / 256 = a10 from by omega, show (a10 * 256 + a11) % 256 = a11 from by omega,
        show (a12 * 256 + a13) / 256 = a12 from by omega, show (a12 * 256 + a13) % 256 = a13 from by omega, show (a14 * 256 + a15) / 256 = a14 from by omega, show (a14 * 256 + a15) % 256 = a15 from by omega]
      rfl
/-- What bytes such a text has. -/
def TxtB (x : UInt8) : Prop := HexB x ∨ x.toNat = 58
theorem tailG_mem : ∀ (gs : List Nat), (∀ g ∈ gs, g < 65536) → ∀ x ∈ tailG gs, TxtB x
  | [], _, x, hx => by simp [tailG] at hx
  | [g], h, x, hx => Or.inl (hexL_mem (h g (by simp)) x hx)
  | g :: h0 :: t, h, x, hx => by
    rw [tailG] at hx
    rcases List.mem_append.1 hx with hx | hx
    · exact Or.inl (hexL_mem (h g (by simp)) x hx)
    · rcases List.mem_cons.1 hx with rfl | hx
      · exact Or.inr rfl
      · exact tailG_mem (h0 :: t) (fun y hy => h y (by simp [hy])) x hx
theorem dbl_app : ∀ (p r : List UInt8), (∀ x ∈ p, x.toNat ≠ 58) → dbl (p ++ r) = dbl r
  | [], r, _ => rfl
  | [x], r, h => by
    have hx := h x (by simp)
    cases r with
    | nil => rfl
    | cons y r =>
      show dbl (x :: y :: r) = _
      rw [dbl]
      simp [hx]
  | x :: y :: p, r, h => by
    have hx := h x (by simp)
    have := dbl_app (y :: p) r fun z hz => h z (by simp [hz])
    have hxx : (x.toNat == 58) = false := by simpa using hx
    show dbl (x :: y :: (p ++ r)) = _
    rw [dbl, hxx, Bool.false_and, Bool.false_or]
    exact this
theorem hexB_58 {x : UInt8} (h : HexB x) : x.toNat ≠ 58 := by unfold HexB at h; omega
theorem dbl_tailG : ∀ (gs : List Nat), (∀ g ∈ gs, g < 65536) → dbl (tailG gs) = false
  | [], _ => rfl
  | [g], h => by
    have := dbl_app (hexL g) [] fun x hx => hexB_58 (hexL_mem (h g (by simp)) x hx)
    rw [List.append_nil] at this
    exact this
  | g :: h0 :: t, h => by
    rw [tailG, dbl_app _ _ fun x hx => hexB_58 (hexL_mem (h g (by simp)) x hx)]
    have ih := dbl_tailG (h0 :: t) fun y hy => h y (by simp [hy])
    obtain ⟨y, r, e⟩ : ∃ y r, tailG (h0 :: t) = y :: r := by
      cases hc : tailG (h0 :: t) with
      | nil => exact absurd hc (tailG_ne h0 t)
      | cons y r => exact ⟨y, r, rfl⟩
    have hy : y.toNat ≠ 58 := by
      have hh : HexB y := by
        cases t with
        | nil =>
          have : y ∈ hexL h0 := by
            have : tailG [h0] = hexL h0 := rfl
            rw [← this, e]; simp
          exact hexL_mem (h h0 (by simp)) y this
        | cons h1 t =>
          have hne := hexL_ne h0
          cases hc : hexL h0 with
          | nil => exact absurd hc hne
          | cons z q =>
            rw [tailG, hc] at e
            cases e
            exact hexL_mem (h h0 (by simp)) _ (by rw [hc]; simp)
      exact hexB_58 hh
    rw [e] at ih ⊢
    rw [dbl, ih]
    simp [hy]
theorem outK_mem {a : List Int} (h : ∀ x ∈ a, 0 ≤ x ∧ x ≤ 255) : ∀ x ∈ outK a 8, TxtB x := by
  rw [outK_tail]
  exact tailG_mem _ (by simp [grp_lt h])
theorem outK_dbl {a : List Int} (h : ∀ x ∈ a, 0 ≤ x ∧ x ≤ 255) : dbl (outK a 8) = false := by
  rw [outK_tail]
  exact dbl_tailG _ (by simp [grp_lt h])
end Go.Proofs.YtpemdpfageikfaaGreatDoor.R
/- Plain laws: an address of 128 bits as netip keeps it; its mask; what is no loopback and stands for no address of 32 bits. -/
namespace Go.Proofs.YtpemdpfageikfaaGreatDoor.R
open Go.RowKit Go.Proofs.YtpemdpfageikfaaGreatDoorW.PrintWords Go.Proofs.YtpemdpfageikfaaGreatDoorW.PrintLast Go.Proofs.YtpemdpfageikfaaGreatDoorW.PrintMore

/-- The number of eight bytes. -/
def h8 : List Nat → Int
  | [x0, x1, x2, x3, x4, x5, x6, x7] => (x0 : Int) * 72057594037927936 + (x1 : Int) * 281474976710656 + (x2 : Int) * 1099511627776 + (x3 : Int) * 4294967296 + (x4 : Int) * 16777216 + (x5 : Int) * 65536 + (x6 : Int) * 256 + (x7 : Int)
  | _ => 0
theorem be64 (x0 x1 x2 x3 x4 x5 x6 x7 : Nat) (b0 : x0 ≤ 255) (b1 : x1 ≤ 255) (b2 : x2 ≤ 255) (b3 : x3 ≤ 255) (b4 : x4 ≤ 255) (b5 : x5 ≤ 255) (b6 : x6 ≤ 255) (b7 : x7 ≤ 255) :
    Q.byteorder_BEUint64.f [(x0 : Int), x1, x2, x3, x4, x5, x6, x7] = some (h8 [x0, x1, x2, x3, x4, x5, x6, x7]) := by
  have wr : ∀ v : Int, 0 ≤ v → v < 18446744073709551616 → IntKind.u64.wrap v = v := fun v h0 h1 => by rw [IntKind.wrap_u64]; omega
  unfold Q.byteorder_BEUint64.f
  rw [if_pos (by simp), if_pos (by simp), if_pos (by simp), if_pos (by simp), if_pos (by simp), if_pos (by simp), if_pos (by simp), if_pos (by simp)]
  have r0 : rd [(x0 : Int), x1, x2, x3, x4, x5, x6, x7] 0 = x0 := rfl
  have r1 : rd [(x0 : Int), x1, x2, x3, x4, x5, x6, x7] 1 = x1 := rfl
  have r2 : rd [(x0 : Int), x1, x2, x3, x4, x5, x6, x7] 2 = x2 := rfl
  have r3 : rd [(x0 : Int), x1, x2, x3, x4, x5, x6, x7] 3 = x3 := rfl
  have r4 : rd [(x0 : Int), x1, x2, x3, x4, x5, x6, x7] 4 = x4 := rfl
  have r5 : rd [(x0 : Int), x1, x2, x3, x4, x5, x6, x7] 5 = x5 := rfl
  have r6 : rd [(x0 : Int), x1, x2, x3, x4, x5, x6, x7] 6 = x6 := rfl
  have r7 : rd [(x0 : Int), x1, x2, x3, x4, x5, x6, x7] 7 = x7 := rfl
  rw [r0, r1, r2, r3, r4, r5, r6, r7]
  rw [wr x0 (by omega) (by omega), wr x1 (by omega) (by omega), wr x2 (by omega) (by omega), wr x3 (by omega) (by omega), wr x4 (by omega) (by omega), wr x5 (by omega) (by omega), wr x6 (by omega) (by omega), wr x7 (by omega) (by omega)]
  rw [wr ((x6 : Int) * 256) (by omega) (by omega), wr ((x5 : Int) * 65536) (by omega) (by omega), wr ((x4 : Int) * 16777216) (by omega) (by omega), wr ((x3 : Int) * 4294967296) (by omega) (by omega), wr ((x2 : Int) * 1099511627776) (by omega) (by omega), wr ((x1 : Int) * 281474976710656) (by omega) (by omega), wr ((x0 : Int) * 72057594037927936) (by omega) (by omega)]
  rw [or_add64' 8 ((x6 : Int) * 256) x7 256 (by decide) (by omega) (by omega) (by omega) (by omega) (by omega) (by omega)]
  rw [or_add64' 16 ((x5 : Int) * 65536) _ 65536 (by decide) (by omega) (by omega) (by omega) (by omega) (by omega) (by omega)]
  rw [or_add64' 24 ((x4 : Int) * 16777216) _ 16777216 (by decide) (by omega) (by omega) (by omega) (by omega) (by omega) (by omega)]
  rw [or_add64' 32 ((x3 : Int) * 4294967296) _ 4294967296 (by decide) (by omega) (by omega) (by omega) (by omega) (by omega) (by omega)]
  rw [or_add64' 40 ((x2 : Int) * 1099511627776) _ 1099511627776 (by decide) (by omega) (by omega) (by omega) (by omega) (by omega) (by omega)]
  rw [or_add64' 48 ((x1 : Int) * 281474976710656) _ 281474976710656 (by decide) (by omega) (by omega) (by omega) (by omega) (by omega) (by omega)]
  rw [or_add64' 56 ((x0 : Int) * 72057594037927936) _ 72057594037927936 (by decide) (by omega) (by omega) (by omega) (by omega) (by omega) (by omega)]
  exact congrArg some (by rw [h8]; omega)
theorem h8_bytes (x0 x1 x2 x3 x4 x5 x6 x7 : Nat) (b0 : x0 ≤ 255) (b1 : x1 ≤ 255) (b2 : x2 ≤ 255) (b3 : x3 ≤ 255) (b4 : x4 ≤ 255) (b5 : x5 ≤ 255) (b6 : x6 ≤ 255) (b7 : x7 ≤ 255) :
    bytes64 (h8 [x0, x1, x2, x3, x4, x5, x6, x7]) = [(x0 : Int), x1, x2, x3, x4, x5, x6, x7] ∧ In64 (h8 [x0, x1, x2, x3, x4, x5, x6, x7]) := by
  rw [h8]
  refine ⟨?_, by unfold In64; omega⟩
  unfold bytes64
  refine congr (congrArg List.cons (by omega)) ?_
  refine congr (congrArg List.cons (by omega)) ?_
  refine congr (congrArg List.cons (by omega)) ?_
  refine congr (congrArg List.cons (by omega)) ?_
  refine congr (congrArg List.cons (by omega)) ?_
  refine congr (congrArg List.cons (by omega)) ?_
  refine congr (congrArg List.cons (by omega)) ?_
  refine congr (congrArg List.cons (by omega)) ?_
  rfl
/-- The address of sixteen bytes. -/
def ad6 (a : List Nat) : Bool × Int × Int := (true, h8 (a.take 8), h8 (a.drop 8))
theorem ad6_all (a : List Nat) (hl : a.length = 16) (hb : ∀ x ∈ a, x ≤ 255) : b16 (ad6 a) = ints a ∧ In64 (ad6 a).2.1 ∧ In64 (ad6 a).2.2 ∧ Q.byteorder_BEUint64.f ((ints a).take 8) = some (ad6 a).2.1 ∧ Q.byteorder_BEUint64.f ((ints a).drop 8) = some (ad6 a).2.2 := by
  match a, hl with
  | [a0, a1, a2, a3, a4, a5, a6, a7, a8, a9, a10, a11, a12, a13, a14, a15], _ =>
      have q0 := hb a0 (by simp)
      have q1 := hb a1 (by simp)
      have q2 := hb a2 (by simp)
      have q3 := hb a3 (by simp)
      have q4 := hb a4 (by simp)
      have q5 := hb a5 (by simp)
      have q6 := hb a6 (by simp)
      have q7 := hb a7 (by simp)
      have q8 := hb a8 (by simp)
      have q9 := hb a9 (by simp)
      have q10 := hb a10 (by simp)
      have q11 := hb a11 (by simp)
      have q12 := hb a12 (by simp)
      have q13 := hb a13 (by simp)
      have q14 := hb a14 (by simp)
      have q15 := hb a15 (by simp)
      obtain ⟨e1, e2⟩ := h8_bytes a0 a1 a2 a3 a4 a5 a6 a7 q0 q1 q2 q3 q4 q5 q6 q7
      obtain ⟨e3, e4⟩ := h8_bytes a8 a9 a10 a11 a12 a13 a14 a15 q8 q9 q10 q11 q12 q13 q14 q15
      refine ⟨?_, e2, e4, be64 a0 a1 a2 a3 a4 a5 a6 a7 q0 q1 q2 q3 q4 q5 q6 q7, be64 a8 a9 a10 a11 a12 a13 a14 a15 q8 q9 q10 q11 q12 q13 q14 q15⟩
      show bytes64 (h8 [a0, a1, a2, a3, a4, a5, a6, a7]) ++ bytes64 (h8 [a8, a9, a10, a11, a12, a13, a14, a15]) = _
      rw [e1, e3]
      rfl
/-- No loopback, and none of those that stand for an address of 32 bits. -/
def Plain (a : List Nat) : Prop := eqPre 80 a (List.replicate 16 0) = false
theorem plain_ten (a : List Nat) (hl : a.length = 16) (hb : ∀ x ∈ a, x ≤ 255) (hp : Plain a) : ((ints a).take 10).all (· == 0) = false := by
  match a, hl with
  | [a0, a1, a2, a3, a4, a5, a6, a7, a8, a9, a10, a11, a12, a13, a14, a15], _ =>
    rw [Bool.eq_false_iff]
    intro h
    have h2 : a0 = 0 ∧ a1 = 0 ∧ a2 = 0 ∧ a3 = 0 ∧ a4 = 0 ∧ a5 = 0 ∧ a6 = 0 ∧ a7 = 0 ∧ a8 = 0 ∧ a9 = 0 := by
      simp [ints] at h
      omega
    obtain ⟨rfl, rfl, rfl, rfl, rfl, rfl, rfl, rfl, rfl, rfl⟩ := h2
    have e : eqPre 80 [0, 0, 0, 0, 0, 0, 0, 0, 0, 0, a10, a11, a12, a13, a14, a15] (List.replicate 16 0) = eqPre 0 [a10, a11, a12, a13, a14, a15] [0, 0, 0, 0, 0, 0] := rfl
    unfold Plain at hp
    rw [e, eqPre_zero _ _ (fun x hx => by have := hb x (by simp at hx ⊢; omega); omega) (by simp)] at hp
    cases hp
theorem mask_up16 (n : Nat) : maskUpTo n 16 16 = [maskByte n 0, maskByte n 1, maskByte n 2, maskByte n 3, maskByte n 4, maskByte n 5, maskByte n 6, maskByte n 7, maskByte n 8, maskByte n 9, maskByte n 10, maskByte n 11, maskByte n 12, maskByte n 13, maskByte n 14, maskByte n 15] := by
  simp [maskUpTo, List.range_succ]
/-- The bytes of a masked address. -/
def mask16 (a : List Nat) (n : Nat) : List Int := [bits .and .u8 (a.getD 0 0 : Nat) (maskByte n 0), bits .and .u8 (a.getD 1 0 : Nat) (maskByte n 1), bits .and .u8 (a.getD 2 0 : Nat) (maskByte n 2), bits .and .u8 (a.getD 3 0 : Nat) (maskByte n 3), bits .and .u8 (a.getD 4 0 : Nat) (maskByte n 4), bits .and .u8 (a.getD 5 0 : Nat) (maskByte n 5), bits .and .u8 (a.getD 6 0 : Nat) (maskByte n 6), bits .and .u8 (a.getD 7 0 : Nat) (maskByte n 7), bits .and .u8 (a.getD 8 0 : Nat) (maskByte n 8), bits .and .u8 (a.getD 9 0 : Nat) (maskByte n 9), bits .and .u8 (a.getD 10 0 : Nat) (maskByte n 10), bits .and .u8 (a.getD 11 0 : Nat) (maskByte n 11), bits .and .u8 (a.getD 12 0 : Nat) (maskByte n 12), bits .and .u8 (a.getD 13 0 : Nat) (maskByte n 13), bits .and .u8 (a.getD 14 0 : Nat) (maskByte n 14), bits .and .u8 (a.getD 15 0 : Nat) (maskByte n 15)]
theorem mask_f16 (a : List Nat) (n : Nat) (hl : a.length = 16) (hb : ∀ x ∈ a, x ≤ 255) (k : Nat) : Q.netcidr_IP_Mask.f (k + 30) (b16 (ad6 a)) (maskUpTo n (lenOf (ad6 a)) (lenOf (ad6 a))) = some (mask16 a n) := by
  have hl16 : lenOf (ad6 a) = 16 := rfl
  rw [hl16, (ad6_all a hl hb).1, mask_up16]
  match a, hl with
  | [a0, a1, a2, a3, a4, a5, a6, a7, a8, a9, a10, a11, a12, a13, a14, a15], _ =>
    unfold mask16
    generalize maskByte n 0 = m0
    generalize maskByte n 1 = m1
    generalize maskByte n 2 = m2
    generalize maskByte n 3 = m3
    generalize maskByte n 4 = m4
    generalize maskByte n 5 = m5
    generalize maskByte n 6 = m6
    generalize maskByte n 7 = m7
    generalize maskByte n 8 = m8
    generalize maskByte n 9 = m9
    generalize maskByte n 10 = m10
    generalize maskByte n 11 = m11
    generalize maskByte n 12 = m12
    generalize maskByte n 13 = m13
    generalize maskByte n 14 = m14
    generalize maskByte n 15 = m15
    have hlen : (ints [a0, a1, a2, a3, a4, a5, a6, a7, a8, a9, a10, a11, a12, a13, a14, a15]).length = 16 := rfl
    unfold Q.netcidr_IP_Mask.f
    rw [if_pos (by simp), if_neg (by rw [hlen]; omega), Q.netcidr_IP_Mask.j0, if_neg (by simp), Q.netcidr_IP_Mask.j1, if_neg (by simp), Q.netcidr_IP_Mask.j2, if_neg (by simp), Q.netcidr_IP_Mask.j3, if_pos (by simp [ints]), if_pos (by simp), if_pos (by simp [ints])]
    simp [Q.netcidr_IP_Mask.l0, rd, wrap64, List.replicate, ints]
theorem hit_net16 (a m : List Nat) (n : Nat) (h : a.length = 16) (hb : ∀ x ∈ a, x ≤ 255) (h' : m.length = 16) (hb' : ∀ x ∈ m, x ≤ 255) : sameMasked 16 (mask16 a n) (maskUpTo n 16 16) (ints m) = eqPre n a m := by
  refine same_pre 16 n a m h h' (fun x hx => by have := hb x hx; omega) (fun x hx => by have := hb' x hx; omega) _ _ ?_ ?_
  · intro k hk
    match k, hk with
    | 0, _ => rfl
    | 1, _ => rfl
    | 2, _ => rfl
    | 3, _ => rfl
    | 4, _ => rfl
    | 5, _ => rfl
    | 6, _ => rfl
    | 7, _ => rfl
    | 8, _ => rfl
    | 9, _ => rfl
    | 10, _ => rfl
    | 11, _ => rfl
    | 12, _ => rfl
    | 13, _ => rfl
    | 14, _ => rfl
    | 15, _ => rfl
    | k + 16, hk => exact absurd hk (by omega)
  · intro k hk
    match m, h' with
    | [a0, a1, a2, a3, a4, a5, a6, a7, a8, a9, a10, a11, a12, a13, a14, a15], _ =>
      match k, hk with
      | 0, _ => rfl
      | 1, _ => rfl
      | 2, _ => rfl
      | 3, _ => rfl
      | 4, _ => rfl
      | 5, _ => rfl
      | 6, _ => rfl
      | 7, _ => rfl
      | 8, _ => rfl
      | 9, _ => rfl
      | 10, _ => rfl
      | 11, _ => rfl
      | 12, _ => rfl
      | 13, _ => rfl
      | 14, _ => rfl
      | 15, _ => rfl
      | k + 16, hk => exact absurd hk (by omega)
end Go.Proofs.YtpemdpfageikfaaGreatDoor.R
