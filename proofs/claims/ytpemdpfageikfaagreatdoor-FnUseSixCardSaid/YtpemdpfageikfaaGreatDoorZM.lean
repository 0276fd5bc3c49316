/- Plain laws: addresses, networks, entries, hosts with ports. -/
import Derived.Test.YtpemdpfageikfaaGreatDoorZL
import Derived.Test.YtpemdpfageikfaaGreatDoorZE
import Derived.Test.YtpemdpfageikfaaGreatDoorZD
import Derived.Test.YtpemdpfageikfaaGreatDoorZQf
import Derived.Test.YtpemdpfageikfaaGreatDoorZJ
import Derived.Test.YtpemdpfageikfaaGreatDoorZF
set_option linter.unusedVariables false
set_option linter.unusedSimpArgs false
/- Plain laws: the package's reading of an address is the reference's. -/
namespace Go.Proofs.YtpemdpfageikfaaGreatDoor.R
open Go.RowKit Go.Proofs.YtpemdpfageikfaaGreatDoorW.PrintWords Go.Proofs.YtpemdpfageikfaaGreatDoorW.PrintLast Go.Proofs.YtpemdpfageikfaaGreatDoorW.PrintMore

/-- Numbers put in, from a place on. -/
def setFrom : List Int → Nat → List Nat → List Int
  | fs, _, [] => fs
  | fs, p, n :: ns => setFrom (fs.set p n) (p + 1) ns
def Res (p : Nat) (fs : List Int) (ps : List (List UInt8)) : Option (List Int) := match fieldsL ps with
  | none => none
  | some ns => if p + ns.length = 4 then some (setFrom fs p ns) else none
theorem fieldsL_len : ∀ {ps : List (List UInt8)} {ns : List Nat}, fieldsL ps = some ns → ns.length = ps.length
  | [], ns, h => by cases h; rfl
  | p :: r, ns, h => by
    rw [fieldsL] at h
    split at h
    · cases h
    · cases e : fieldsL r with
      | none => rw [e] at h; cases h
      | some ms => rw [e] at h; cases h; simp [fieldsL_len e]
theorem numL_app {M : Nat} : ∀ (a b : List UInt8) (n : Nat), numL M (a ++ b) n = (numL M a n).bind (numL M b)
  | [], b, n => rfl
  | c :: a, b, n => by
    rw [List.cons_append, numL, numL]
    split
    · split
      · rfl
      · exact numL_app a b _
    · rfl
theorem fieldL_nil : fieldL [] = none := rfl
theorem numL_bad {M n : Nat} {c : UInt8} {r : List UInt8} (h : ¬ isDig c) : numL M (c :: r) n = none := by rw [numL, if_neg h]
theorem fieldL_none {p : List UInt8} (h : numL 255 p 0 = none) : fieldL p = none := by unfold fieldL; rw [h]
theorem Res_none {p : Nat} {fs : List Int} {f : List UInt8} {ps : List (List UInt8)} (h : fieldL f = none) : Res p fs (f :: ps) = none := by unfold Res; rw [fieldsL, h]
theorem Res_cons {p v : Nat} {fs : List Int} {f : List UInt8} {ps : List (List UInt8)} (h : fieldL f = some v) : Res p fs (f :: ps) = Res (p + 1) (fs.set p v) ps := by
  unfold Res
  rw [fieldsL, h]
  cases e : fieldsL ps with
  | none => rfl
  | some ns =>
    simp only [Option.map_some, List.length_cons]
    by_cases h4 : p + 1 + ns.length = 4
    · rw [if_pos (by omega), if_pos h4]; rfl
    · rw [if_neg (by omega), if_neg h4]
theorem splitOn_cons {c : Nat} {x : UInt8} {r h : List UInt8} {t : List (List UInt8)} (hx : x.toNat ≠ c) (e : splitOn c r = h :: t) : splitOn c (x :: r) = (x :: h) :: t := by
  rw [splitOn, if_neg hx, e]
theorem splitOn_hit {c : Nat} {x : UInt8} {r : List UInt8} (hx : x.toNat = c) : splitOn c (x :: r) = [] :: splitOn c r := by
  rw [splitOn, if_pos hx]
theorem p4_mid (n : Nat) : ∀ (l w : List UInt8) (x : UInt8) (v p : Nat) (fs : List Int) (h : List UInt8) (t : List (List UInt8)), l.length ≤ n → fieldL (w ++ [x]) = some v → isDig x → p ≤ 3 → splitOn 46 l = h :: t →
    p4 l (some x) v p (w.length + 1) fs = Res p fs ((w ++ [x] ++ h) :: t) := by
  induction n with
  | zero =>
    intro l w x v p fs h t hl hf hx hp hs
    have : l = [] := List.eq_nil_of_length_eq_zero (by omega)
    subst this
    cases hs
    rw [p4, List.append_nil, Res_cons hf]
    unfold Res
    by_cases hp3 : p < 3
    · rw [if_pos hp3]
      simp only [fieldsL, List.length_nil]
      rw [if_neg (by omega)]
    · have : p = 3 := by omega
      subst this
      rfl
  | succ n ih =>
    intro l w x v p fs h t hl hf hx hp hs
    match l with
    | [] =>
      cases hs
      rw [p4, List.append_nil, Res_cons hf]
      unfold Res
      by_cases hp3 : p < 3
      · rw [if_pos hp3]
        simp only [fieldsL, List.length_nil]
        rw [if_neg (by omega)]
      · have : p = 3 := by omega
        subst this
        rfl
    | c :: r =>
      obtain ⟨h', t', hr'⟩ := splitOn_ne 46 r
      have hnum : numL 255 (w ++ [x]) 0 = some v := by
        unfold fieldL at hf
        split at hf
        · cases hf
        · rename_i m e
          rw [e]
          split at hf
          · cases hf
          · split at hf
            · cases hf
            · exact hf
      have hv := numL_le (by omega) hnum
      rw [p4]
      by_cases hd : isDig c
      · rw [if_pos (show 48 ≤ c.toNat ∧ c.toNat ≤ 57 from hd)]
        rw [splitOn_cons (by unfold isDig at hd; omega) hr'] at hs
        cases hs
        have hap : numL 255 (w ++ [x] ++ c :: h') 0 = if 255 < v * 10 + (c.toNat - 48) then none else numL 255 h' (v * 10 + (c.toNat - 48)) := by
          rw [numL_app, hnum, Option.bind_some, numL, if_pos hd]
        by_cases hz : w.length + 1 = 1 ∧ v = 0
        · rw [if_pos hz]
          have hw : w = [] := List.eq_nil_of_length_eq_zero (by omega)
          subst hw
          have hx0 : x.toNat = 48 := by
            have := hnum
            simp only [List.nil_append, numL, if_pos hx] at this
            unfold isDig at hx
            split at this
            · cases this
            · cases this; omega
          rw [Res_none]
          unfold fieldL
          cases numL 255 ([] ++ [x] ++ c :: h') 0 with
          | none => rfl
          | some m => simp [hx0]
        · rw [if_neg hz]
          have e8 : v * 10 + c.toNat - 48 = v * 10 + (c.toNat - 48) := by unfold isDig at hd; omega
          rw [e8]
          by_cases hb : 255 < v * 10 + (c.toNat - 48)
          · rw [if_pos hb, Res_none (fieldL_none (by rw [hap, if_pos hb]))]
          · rw [if_neg hb]
            have hf' : fieldL ((w ++ [x]) ++ [c]) = some (v * 10 + (c.toNat - 48)) := by
              have e1 : numL 255 ((w ++ [x]) ++ [c]) 0 = some (v * 10 + (c.toNat - 48)) := by
                rw [numL_app, hnum, Option.bind_some, numL, if_pos hd, if_neg hb]; rfl
              unfold fieldL at hf ⊢
              rw [e1]
              rw [hnum] at hf
              cases w with
              | nil =>
                simp only [List.nil_append, List.cons_append]
                have : ¬ x.toNat = 48 := by
                  intro h48
                  have := hnum
                  simp only [List.nil_append, numL, if_pos hx] at this
                  split at this
                  · cases this
                  · cases this; exact hz ⟨rfl, by omega⟩
                simp [this]
              | cons a w =>
                simp only [List.cons_append] at hf ⊢
                split at hf
                · cases hf
                · rename_i hh
                  rw [if_neg]
                  rintro ⟨-, h48⟩
                  exact hh ⟨by simp, h48⟩
            have := ih r (w ++ [x]) c _ p fs h' _ (by simp at hl; omega) hf' hd hp hr'
            rw [List.length_append] at this
            simp only [List.append_assoc, List.singleton_append, List.length_cons, List.length_nil, List.cons_append, List.nil_append] at this ⊢
            exact this
      · rw [if_neg (show ¬ (48 ≤ c.toNat ∧ c.toNat ≤ 57) from hd)]
        by_cases h46 : c.toNat = 46
        · rw [if_pos h46]
          rw [splitOn_hit h46] at hs
          cases hs
          rw [List.append_nil, Res_cons hf]
          match r with
          | [] =>
            rw [if_pos (Or.inr (Or.inl rfl))]
            unfold Res
            simp [splitOn, fieldsL, fieldL_nil]
          | c2 :: r2 =>
            have hne : ¬ ((some x : Option UInt8) = none ∨ (c2 :: r2 : List UInt8) = [] ∨ (some x : Option UInt8) = some 46) := by
              rintro (h | h | h)
              · cases h
              · cases h
              · cases h; unfold isDig at hx; simp at hx
            rw [if_neg hne]
            obtain ⟨h2, t2, hr2⟩ := splitOn_ne 46 r2
            by_cases hp3 : p = 3
            · rw [if_pos hp3]
              unfold Res
              cases e : fieldsL (splitOn 46 (c2 :: r2)) with
              | none => rfl
              | some ns =>
                have := fieldsL_len e
                obtain ⟨a, b, ab⟩ := splitOn_ne 46 (c2 :: r2)
                rw [ab] at this
                simp only []
                rw [if_neg (by simp at this; omega)]
            · rw [if_neg hp3, p4]
              by_cases hd2 : isDig c2
              · have h9 : c2.toNat - 48 ≤ 255 := by unfold isDig at hd2; omega
                rw [if_pos (show 48 ≤ c2.toNat ∧ c2.toNat ≤ 57 from hd2), if_neg (by omega), if_neg (by unfold isDig at hd2; omega), splitOn_cons (by unfold isDig at hd2; omega) hr2]
                have hf2 : fieldL ([] ++ [c2]) = some (c2.toNat - 48) := by
                  unfold fieldL
                  simp only [List.nil_append, numL, if_pos hd2]
                  rw [if_neg (by omega)]
                  simp
                have := ih r2 [] c2 _ (p + 1) (fs.set p v) h2 t2 (by simp at hl; omega) hf2 hd2 (by omega) hr2
                rw [show 0 * 10 + c2.toNat - 48 = c2.toNat - 48 from by omega]
                exact this
              · rw [if_neg (show ¬ (48 ≤ c2.toNat ∧ c2.toNat ≤ 57) from hd2)]
                by_cases h46' : c2.toNat = 46
                · rw [if_pos h46', if_pos (Or.inr (Or.inr (by congr 1; exact UInt8.toNat_inj.1 h46))), splitOn_hit h46', Res_none fieldL_nil]
                · rw [if_neg h46', splitOn_cons h46' hr2, Res_none (fieldL_none (numL_bad hd2))]
        · rw [if_neg h46]
          rw [splitOn_cons h46 hr'] at hs
          cases hs
          rw [Res_none (fieldL_none (by rw [numL_app, hnum, Option.bind_some, numL_bad hd]))]
theorem four_res (l : List UInt8) : four l = Res 0 [0, 0, 0, 0] (splitOn 46 l) := by
  unfold four
  match l with
  | [] => rfl
  | c :: r =>
    obtain ⟨h2, t2, hr2⟩ := splitOn_ne 46 r
    rw [p4]
    by_cases hd2 : isDig c
    · rw [if_pos (show 48 ≤ c.toNat ∧ c.toNat ≤ 57 from hd2), if_neg (by omega), if_neg (by unfold isDig at hd2; omega), splitOn_cons (by unfold isDig at hd2; omega) hr2]
      have hf2 : fieldL ([] ++ [c]) = some (c.toNat - 48) := by
        unfold fieldL
        simp only [List.nil_append, numL, if_pos hd2]
        rw [if_neg (by unfold isDig at hd2; omega)]
        simp
      have := p4_mid r.length r [] c _ 0 [0, 0, 0, 0] h2 t2 (Nat.le_refl _) hf2 hd2 (by omega) hr2
      rw [show 0 * 10 + c.toNat - 48 = c.toNat - 48 from by omega]
      exact this
    · rw [if_neg (show ¬ (48 ≤ c.toNat ∧ c.toNat ≤ 57) from hd2)]
      by_cases h46' : c.toNat = 46
      · rw [if_pos h46', if_pos (Or.inl rfl), splitOn_hit h46', Res_none fieldL_nil]
      · rw [if_neg h46', splitOn_cons h46' hr2, Res_none (fieldL_none (numL_bad hd2))]
/-- The two readings of an address. -/
theorem four_addr (l : List UInt8) : four l = (addrL l).map fun ns => setFrom [0, 0, 0, 0] 0 ns := by
  rw [four_res]
  unfold Res addrL
  by_cases h4 : (splitOn 46 l).length = 4
  · rw [if_pos h4]
    cases e : fieldsL (splitOn 46 l) with
    | none => rfl
    | some ns =>
      simp only [Option.map_some]
      rw [if_pos (by rw [fieldsL_len e]; omega)]
  · rw [if_neg h4]
    cases e : fieldsL (splitOn 46 l) with
    | none => rfl
    | some ns =>
      simp only [Option.map_none]
      rw [if_neg (by rw [fieldsL_len e]; omega)]
end Go.Proofs.YtpemdpfageikfaaGreatDoor.R
/- Plain laws: the first bits of an address, by shifts and by masks. -/
namespace Go.Proofs.YtpemdpfageikfaaGreatDoor.R
open Go.RowKit Go.Proofs.YtpemdpfageikfaaGreatDoorW.PrintWords Go.Proofs.YtpemdpfageikfaaGreatDoorW.PrintLast Go.Proofs.YtpemdpfageikfaaGreatDoorW.PrintMore

/-- The number of bytes, the great ones first. -/
def valB : List Nat → Nat
  | [] => 0
  | a :: l => a * 256 ^ l.length + valB l
/-- The first n bits of two rows of bytes are the same. -/
def eqPre : Nat → List Nat → List Nat → Bool
  | n, a :: l, b :: m => a / 2 ^ (8 - n) == b / 2 ^ (8 - n) && eqPre (n - 8) l m
  | _, _, _ => true
theorem pow256 (n : Nat) : 256 ^ n = 2 ^ (8 * n) := by rw [Nat.pow_mul]
theorem valB_lt : ∀ {l : List Nat}, (∀ x ∈ l, x < 256) → valB l < 2 ^ (8 * l.length)
  | [], _ => by simp [valB]
  | a :: l, h => by
    have h1 := h a (by simp)
    have h2 := valB_lt (l := l) fun x hx => h x (by simp [hx])
    rw [valB, pow256, List.length_cons, show 8 * (l.length + 1) = 8 + 8 * l.length from by omega, Nat.pow_add]
    have : (a + 1) * 2 ^ (8 * l.length) ≤ 2 ^ 8 * 2 ^ (8 * l.length) := Nat.mul_le_mul_right _ (by omega)
    rw [Nat.add_mul] at this
    omega
theorem eqPre_zero : ∀ (l m : List Nat), (∀ x ∈ l, x < 256) → (∀ x ∈ m, x < 256) → eqPre 0 l m = true
  | a :: l, b :: m, h, h' => by
    have h1 := h a (by simp)
    have h2 := h' b (by simp)
    rw [eqPre, eqPre_zero l m (fun x hx => h x (by simp [hx])) fun x hx => h' x (by simp [hx])]
    rw [show a / 2 ^ (8 - 0) = 0 from Nat.div_eq_of_lt (by simpa using h1), show b / 2 ^ (8 - 0) = 0 from Nat.div_eq_of_lt (by simpa using h2)]
    rfl
  | [], _, _, _ => by simp [eqPre]
  | _ :: _, [], _, _ => by simp [eqPre]
theorem pre_val : ∀ (l m : List Nat) (n : Nat), l.length = m.length → (∀ x ∈ l, x < 256) → (∀ x ∈ m, x < 256) → n ≤ 8 * l.length →
    (valB l / 2 ^ (8 * l.length - n) == valB m / 2 ^ (8 * l.length - n)) = eqPre n l m
  | [], [], n, _, _, _, _ => by simp [eqPre]
  | [], _ :: _, _, h, _, _, _ => by simp at h
  | _ :: _, [], _, h, _, _, _ => by simp at h
  | a :: l, b :: m, n, hl, ha, hb, hn => by
    have ha1 := ha a (by simp)
    have hb1 := hb b (by simp)
    have ha2 : ∀ x ∈ l, x < 256 := fun x hx => ha x (by simp [hx])
    have hb2 : ∀ x ∈ m, x < 256 := fun x hx => hb x (by simp [hx])
    have hlm : l.length = m.length := by simpa using hl
    have hV := valB_lt ha2
    have hW := valB_lt hb2
    rw [← hlm] at hW
    rw [valB, valB, pow256, pow256, ← hlm, eqPre]
    simp only [List.length_cons] at hn ⊢
    by_cases h8 : 8 ≤ n
    · have hk : 8 * (l.length + 1) - n = 8 * l.length - (n - 8) := by omega
      have ih := pre_val l m (n - 8) hlm ha2 hb2 (by omega)
      rw [hk, show 8 - n = 0 from by omega, Nat.pow_zero, Nat.div_one, Nat.div_one, ← ih]
      obtain ⟨k, hk2⟩ : ∃ k, 8 * l.length = (8 * l.length - (n - 8)) + k := ⟨n - 8, by omega⟩
      generalize 8 * l.length - (n - 8) = j at hk2 ⊢
      rw [hk2, Nat.pow_add] at hV hW ⊢
      have hd : ∀ x V, (x * (2 ^ j * 2 ^ k) + V) / 2 ^ j = x * 2 ^ k + V / 2 ^ j := fun x V => by
        rw [show x * (2 ^ j * 2 ^ k) = 2 ^ j * (x * 2 ^ k) from by rw [Nat.mul_left_comm], Nat.mul_add_div (Nat.two_pow_pos j)]
      rw [hd, hd]
      have hv : valB l / 2 ^ j < 2 ^ k := Nat.div_lt_of_lt_mul hV
      have hw : valB m / 2 ^ j < 2 ^ k := Nat.div_lt_of_lt_mul hW
      generalize valB l / 2 ^ j = v at hv ⊢
      generalize valB m / 2 ^ j = u at hw ⊢
      have hp := Nat.two_pow_pos k
      generalize 2 ^ k = q at hv hw hp ⊢
      rw [Bool.eq_iff_iff]
      simp only [Bool.and_eq_true, beq_iff_eq]
      constructor
      · intro h
        have e1 : a = b := by
          have h1 : (a * q + v) / q = a := by rw [Nat.mul_comm, Nat.mul_add_div hp, Nat.div_eq_of_lt hv, Nat.add_zero]
          have h2 : (b * q + u) / q = b := by rw [Nat.mul_comm, Nat.mul_add_div hp, Nat.div_eq_of_lt hw, Nat.add_zero]
          rw [← h1, h, h2]
        subst e1
        exact ⟨rfl, by omega⟩
      · rintro ⟨rfl, rfl⟩; rfl
    · have hk : 8 * (l.length + 1) - n = 8 * l.length + (8 - n) := by omega
      rw [hk, show n - 8 = 0 from by omega, eqPre_zero l m ha2 hb2, Bool.and_true, Nat.pow_add]
      have hd : ∀ x V, V < 2 ^ (8 * l.length) → (x * 2 ^ (8 * l.length) + V) / (2 ^ (8 * l.length) * 2 ^ (8 - n)) = x / 2 ^ (8 - n) := fun x V hV => by
        rw [← Nat.div_div_eq_div_mul, Nat.mul_comm x, Nat.mul_add_div (Nat.two_pow_pos _), Nat.div_eq_of_lt hV, Nat.add_zero]
      rw [hd _ _ hV, hd _ _ hW]
theorem and_tab : ∀ o : Fin 9, ∀ x : Fin 256, x.val &&& (255 - 255 / 2 ^ o.val) = x.val / 2 ^ (8 - o.val) * 2 ^ (8 - o.val) := by decide +kernel
theorem and_mask (x n k : Nat) (hx : x < 256) : bits .and .u8 (x : Int) (maskByte n k) = ((x / 2 ^ (8 - (n - 8 * k)) * 2 ^ (8 - (n - 8 * k)) : Nat) : Int) := by
  obtain ⟨o, ho, hm, hj⟩ : ∃ o, o ≤ 8 ∧ maskByte n k = ((255 - 255 / 2 ^ o : Nat) : Int) ∧ 8 - (n - 8 * k) = 8 - o := by
    unfold maskByte onesLeft
    by_cases h : 8 ≤ n - 8 * k
    · exact ⟨8, by omega, by rw [if_pos h]; rfl, by omega⟩
    · refine ⟨n - 8 * k, by omega, ?_, rfl⟩
      rw [if_neg h]
      have : 255 / 2 ^ (n - 8 * k) ≤ 255 := Nat.div_le_self _ _
      rw [Int.natCast_sub this, Int.natCast_ediv, Int.natCast_pow]
      rfl
  rw [hm, hj]
  have := and_tab ⟨o, by omega⟩ ⟨x, hx⟩
  simp only at this
  rw [← this]
  have h255 : 255 - 255 / 2 ^ o ≤ 255 := Nat.sub_le _ _
  rw [u8_and _ _ (by omega) (by omega) (by omega) (by omega)]
  rw [Int.toNat_natCast, Int.toNat_natCast]
theorem eqPre_idx : ∀ (l m : List Nat) (n : Nat), l.length = m.length → eqPre n l m = (List.range l.length).all fun k => l.getD k 0 / 2 ^ (8 - (n - 8 * k)) == m.getD k 0 / 2 ^ (8 - (n - 8 * k))
  | [], [], n, _ => rfl
  | [], _ :: _, _, h => by simp at h
  | _ :: _, [], _, h => by simp at h
  | a :: l, b :: m, n, h => by
    rw [eqPre, eqPre_idx l m (n - 8) (by simpa using h), List.length_cons, List.range_succ_eq_map, List.all_cons, List.all_map]
    congr 1
    apply List.all_congr rfl
    intro k
    simp only [Function.comp, List.getD_cons_succ]
    rw [show n - 8 * (k + 1) = n - 8 - 8 * k from by omega]
theorem same_pre (L n : Nat) (l m : List Nat) (hl : l.length = L) (hm : m.length = L) (h1 : ∀ x ∈ l, x < 256) (h2 : ∀ x ∈ m, x < 256) (xs ys : List Int) (hx : ∀ k, k < L → xs.getD k 0 = bits .and .u8 ((l.getD k 0 : Nat) : Int) (maskByte n k)) (hy : ∀ k, k < L → ys.getD k 0 = ((m.getD k 0 : Nat) : Int)) :
    sameMasked L xs (maskUpTo n L L) ys = eqPre n l m := by
  rw [eqPre_idx l m n (by omega), hl]
  unfold sameMasked
  rw [Bool.eq_iff_iff, List.all_eq_true, List.all_eq_true]
  refine forall_congr' fun k => forall_congr' fun hk => ?_
  have hk' : k < L := by simpa using hk
  have hms : (maskUpTo n L L).getD k 0 = maskByte n k := by simp [maskUpTo, List.getD, hk']
  have ha : l.getD k 0 < 256 := by
    rw [List.getD_eq_getElem?_getD, List.getElem?_eq_getElem (by omega)]
    exact h1 _ (List.getElem_mem _)
  have hb : m.getD k 0 < 256 := by
    rw [List.getD_eq_getElem?_getD, List.getElem?_eq_getElem (by omega)]
    exact h2 _ (List.getElem_mem _)
  rw [hms, hx k hk', hy k hk', and_mask _ n k ha, and_mask _ n k hb]
  generalize l.getD k 0 = a at ha ⊢
  generalize m.getD k 0 = b at hb ⊢
  have hlt : a / 2 ^ (8 - (n - 8 * k)) * 2 ^ (8 - (n - 8 * k)) < 256 := Nat.lt_of_le_of_lt (Nat.div_mul_le_self _ _) ha
  rw [and_mask _ n k hlt]
  have hp := Nat.two_pow_pos (8 - (n - 8 * k))
  generalize 2 ^ (8 - (n - 8 * k)) = q at hp ⊢
  rw [Nat.mul_div_cancel _ hp]
  simp only [beq_iff_eq]
  constructor
  · intro h
    have : a / q * q = b / q * q := by exact_mod_cast h
    exact Nat.eq_of_mul_eq_mul_right hp this
  · intro h; rw [h]
end Go.Proofs.YtpemdpfageikfaaGreatDoor.R
/- Plain laws: what the reference says of one entry. -/
namespace Go.Proofs.YtpemdpfageikfaaGreatDoor.R
open Go.RowKit Go.Proofs.YtpemdpfageikfaaGreatDoorW.PrintWords Go.Proofs.YtpemdpfageikfaaGreatDoorW.PrintLast Go.Proofs.YtpemdpfageikfaaGreatDoorW.PrintMore

theorem len_pos {α : Type} {l : List α} (h : l ≠ []) : 0 < l.length := List.length_pos_iff.2 h
/-- An address with a number of bits. -/
def netL (l : List UInt8) : Option (List Nat × Nat) := match cutL 47 l with
  | none => none
  | some (a, b) => match addrL a, numL 32 b 0 with
    | some ns, some n => if b = [] then none else some (ns, n)
    | _, _ => none
theorem cutL_size {c : Nat} {l a b : List UInt8} (h : cutL c l = some (a, b)) : a.length + b.length < l.length := by
  unfold cutL at h
  obtain ⟨i, hi, he⟩ := Option.map_eq_some_iff.1 h
  have := first_lt hi
  cases he
  simp
  omega
theorem network_f (s : ByteArray) (hs : s.size ≤ 1000000) (k : Nat) (hk : 3 * s.size + 10 < k) : ∃ x y z, Q.spec_Network.f k s = some (x, y, z) ∧ match netL s.data.toList with
    | none => z = false
    | some (ns, n) => z = true ∧ x = (valL 0 ns : Nat) ∧ y = (n : Nat) := by
  unfold Q.spec_Network.f
  rw [show (47 : Int) = ((47 : Nat) : Int) from rfl, cut_f s 47 (by omega) k (by omega)]
  unfold netL
  cases hc : cutL 47 s.data.toList with
  | none =>
    simp only [Option.bind_some]
    rw [address_f s hs k hk, show (32 : Int) = ((32 : Nat) : Int) from rfl, number_f ⟨#[]⟩ 32 (by omega) (by show 0 ≤ _; omega) k (by show 2 * 0 < _; omega)]
    simp
  | some ab =>
    obtain ⟨a, b⟩ := ab
    have hl := cutL_size hc
    rw [len_list] at hl
    simp only [Option.bind_some]
    rw [address_f (bA a) (by rw [bA_size]; omega) k (by rw [bA_size]; omega), show (32 : Int) = ((32 : Nat) : Int) from rfl, number_f (bA b) 32 (by omega) (by rw [bA_size]; omega) k (by rw [bA_size]; omega)]
    rw [bA_list, bA_list, bA_toList]
    cases ha : addrL a with
    | none => simp
    | some ns =>
      cases hb : numL 32 b 0 with
      | none => simp
      | some n =>
        by_cases h0 : b = []
        · subst h0; simp
        · simp [h0]
theorem valL_lt : ∀ (ns : List Nat) (x : Nat), (∀ n ∈ ns, n ≤ 255) → valL x ns < (x + 1) * 256 ^ ns.length
  | [], x, _ => by simp [valL]
  | n :: ns, x, h => by
    have := valL_lt ns (x * 256 + n) fun m hm => h m (by simp [hm])
    have h1 := h n (by simp)
    have e : valL x (n :: ns) = valL (x * 256 + n) ns := rfl
    rw [e, List.length_cons, Nat.pow_succ]
    refine Nat.lt_of_lt_of_le this ?_
    rw [Nat.mul_comm (256 ^ ns.length) 256, ← Nat.mul_assoc]
    exact Nat.mul_le_mul_right _ (by omega)
theorem fieldsL_le : ∀ {ps : List (List UInt8)} {ns : List Nat}, fieldsL ps = some ns → ∀ n ∈ ns, n ≤ 255
  | [], ns, h => by cases h; simp
  | p :: r, ns, h => by
    rw [fieldsL] at h
    split at h
    · cases h
    · rename_i m e
      cases e2 : fieldsL r with
      | none => rw [e2] at h; cases h
      | some ms =>
        rw [e2] at h
        cases h
        intro n hn
        rcases List.mem_cons.1 hn with rfl | hn
        · exact fieldL_le e
        · exact fieldsL_le e2 n hn
theorem addrL_some {l : List UInt8} {ns : List Nat} (h : addrL l = some ns) : ns.length = 4 ∧ ∀ n ∈ ns, n ≤ 255 := by
  unfold addrL at h
  split at h
  · rename_i h4
    exact ⟨by rw [fieldsL_len h, h4], fieldsL_le h⟩
  · cases h
theorem valL_small {ns : List Nat} (h4 : ns.length = 4) (h : ∀ n ∈ ns, n ≤ 255) : valL 0 ns < 4294967296 := by
  have := valL_lt ns 0 h
  rw [h4] at this
  simpa using this
theorem begin_f (x n : Nat) (hx : x < 4294967296) (hn : n ≤ 32) : Q.spec_begin.f x n = some ((x / 2 ^ (32 - n) : Nat) : Int) := by
  unfold Q.spec_begin.f
  have e : wrap64 (32 - (n : Int)) = ((32 - n : Nat) : Int) := by unfold wrap64; omega
  rw [e, if_pos (by omega)]
  unfold shr
  rw [Int.toNat_natCast, Nat.min_eq_left (show 32 - n ≤ IntKind.u32.bits from Nat.sub_le 32 n), Int.natCast_ediv, Int.natCast_pow]
  rfl
theorem pre_of (p l : List UInt8) : Lib.hasPrefix l p = true ↔ p = l.take p.length := by
  unfold Lib.hasPrefix
  rw [List.isPrefixOf_iff_prefix, List.prefix_iff_eq_take]
theorem suf_of (p l : List UInt8) : Lib.hasSuffix l p = true ↔ p = l.drop (l.length - p.length) := by
  unfold Lib.hasSuffix
  rw [List.isSuffixOf_iff_suffix, List.suffix_iff_eq_drop]
theorem begins_f (s p : ByteArray) : Q.spec_Begins.f s p = some (Lib.hasPrefix s.data.toList p.data.toList) := by
  unfold Q.spec_Begins.f
  by_cases h : p.size ≤ s.size
  · rw [if_pos (by omega), if_pos (by omega), if_pos (by omega)]
    congr 1
    rw [Bool.eq_iff_iff, pre_of, beq_iff_eq, Int.toNat_natCast, extract_bA, bA_toList, ByteArray.toList_eq, List.drop_zero, Nat.sub_zero]
    exact eq_comm
  · rw [if_neg (by omega)]
    congr 1
    symm
    rw [Bool.eq_false_iff]
    intro e
    have := congrArg List.length ((pre_of _ _).1 e)
    rw [List.length_take, len_list, len_list] at this
    omega
theorem ends_f (s p : ByteArray) (hs : s.size ≤ 140737488351232) (hp : p.size ≤ 140737488351232) : Q.spec_Ends.f s p = some (Lib.hasSuffix s.data.toList p.data.toList) := by
  unfold Q.spec_Ends.f
  by_cases h : p.size ≤ s.size
  · have e : wrap64 ((s.size : Int) - (p.size : Int)) = ((s.size - p.size : Nat) : Int) := by unfold wrap64; omega
    rw [if_pos (by omega), e, if_pos (by omega), if_pos (by omega)]
    congr 1
    rw [Bool.eq_iff_iff, suf_of, beq_iff_eq, Int.toNat_natCast, extract_bA, bA_toList, ByteArray.toList_eq, List.take_of_length_le (by rw [List.length_drop, len_list]; omega)]
    exact eq_comm
  · rw [if_neg (by omega)]
    congr 1
    symm
    rw [Bool.eq_false_iff]
    intro e
    have := congrArg List.length ((suf_of _ _).1 e)
    rw [List.length_drop, len_list, len_list] at this
    omega
/-- The host of an entry and its port; none: an empty host ahead of a port. -/
def entL (q : List UInt8) : Option (List UInt8 × List UInt8) := match cutL 58 q with
  | none => some (q, [])
  | some (h, p) => if h = [] then none else some (h, p)
/-- The name as it is kept, and whether it is meant itself. -/
def domL (h : List UInt8) : List UInt8 × Bool := if Lib.hasPrefix h [42, 46] then (h.drop 1, false) else if h.head? = some 46 then (h, false) else (46 :: h, true)
def domHit (name : List UInt8) (d : List UInt8 × Bool) : Bool := Lib.hasSuffix name d.1 || (d.2 && name == d.1.drop 1)
def fitL (p port : List UInt8) : Bool := p.isEmpty || p == port
def forL (name port : List UInt8) (A : Option (List Nat)) (q : List UInt8) : Bool := match netL q with
  | some (ns, n) => match A with
    | some ms => valL 0 ns / 2 ^ (32 - n) == valL 0 ms / 2 ^ (32 - n)
    | none => false
  | none => match entL q with
    | none => false
    | some (h, p) => match addrL h with
      | some ns => match A with
        | some ms => valL 0 ns == valL 0 ms && fitL p port
        | none => false
      | none => A.isNone && fitL p port && domHit name (domL h)
def adI (A : Option (List Nat)) : Int := match A with
  | none => 0
  | some ns => (valL 0 ns : Nat)
theorem j3_f (x name port : ByteArray) (A : Int) (isA n : Bool) (hx : x.size ≤ 140737488351230) (hn : name.size ≤ 140737488351232) (h0 : 0 < x.size) (k : Nat) :
    Q.spec_target_isFor.j3 (k + 1) x n name port A isA = some (!n && bif x.data.toList.head? == some 46 then Lib.hasSuffix name.data.toList x.data.toList else (name.data.toList == x.data.toList || Lib.hasSuffix name.data.toList (46 :: x.data.toList))) := by
  rw [Q.spec_target_isFor.j3]
  cases n with
  | true => simp
  | false =>
    rw [if_neg (by simp), if_pos (by omega)]
    have hl : 0 < x.data.toList.length := by rw [len_list]; exact h0
    have hb : bt x 0 = ((x.data.toList[0]'hl).toNat : Int) := bt_list x 0 (by simpa using h0)
    have hh : x.data.toList.head? = some (x.data.toList[0]'hl) := by rw [List.head?_eq_getElem?, List.getElem?_eq_getElem hl]
    rw [hb, hh]
    generalize x.data.toList[0]'hl = b
    by_cases hb46 : b.toNat = 46
    · have : b = 46 := UInt8.toNat_inj.1 hb46
      rw [if_pos (by omega), ends_f _ _ hn (by omega)]
      subst this
      simp
    · have : (some b == some (46 : UInt8)) = false := by
        simp
        intro e
        exact hb46 (by rw [e]; rfl)
      rw [if_neg (by omega), this]
      simp only [Bool.not_false, Bool.true_and, cond_false]
      rw [ByteArray.toList_eq, ByteArray.toList_eq]
      by_cases he : name.data.toList = x.data.toList
      · rw [if_pos he, he]; simp
      · have : (name.data.toList == x.data.toList) = false := by simpa using he
        rw [if_neg he, if_pos (by omega), ends_f _ _ hn (by rw [ByteArray.size_append]; show 1 + _ ≤ _; omega), this]
        have e2 : ((⟨#[46]⟩ : ByteArray) ++ x).data.toList = 46 :: x.data.toList := by simp
        rw [e2]
        simp
theorem pre2 (h : List UInt8) (hp : Lib.hasPrefix h [42, 46] = true) : ∃ r, h = 42 :: 46 :: r := by
  have := (pre_of _ _).1 hp
  match h, this with
  | [], e => simp at e
  | [a], e => simp at e
  | a :: b :: r, e =>
    simp at e
    exact ⟨r, by rw [e.1, e.2]⟩
theorem j2_f (x name port : ByteArray) (A : Int) (isA fits : Bool) (hx : x.size ≤ 140737488351230) (hn : name.size ≤ 140737488351232) (h0 : 0 < x.size) (k : Nat) :
    Q.spec_target_isFor.j2 (k + 2) x fits name port A isA = some (!isA && fits && bif x.data.toList.head? == some 46 then Lib.hasSuffix name.data.toList x.data.toList else (name.data.toList == x.data.toList || Lib.hasSuffix name.data.toList (46 :: x.data.toList))) := by
  rw [Q.spec_target_isFor.j2]
  cases isA with
  | true => rw [if_pos rfl, j3_f _ _ _ _ _ _ hx hn h0]; simp
  | false => rw [if_neg (by simp), j3_f _ _ _ _ _ _ hx hn h0]; simp
theorem j1_f (x name port : ByteArray) (A : Option (List Nat)) (fits : Bool) (hx : x.size ≤ 1000000) (hn : name.size ≤ 140737488351232) (h0 : 0 < x.size) (k : Nat) (hk : 3 * x.size + 12 < k) :
    Q.spec_target_isFor.j1 (k + 1) x fits name port (adI A) A.isSome = some (match addrL x.data.toList with
      | some ns => match A with
        | some ms => valL 0 ns == valL 0 ms && fits
        | none => false
      | none => A.isNone && fits && domHit name.data.toList (domL x.data.toList)) := by
  rw [Q.spec_target_isFor.j1, address_f x hx k (by omega)]
  cases ha : addrL x.data.toList with
  | some ns =>
    simp only [Option.bind_some, if_true]
    cases A with
    | none => simp
    | some ms =>
      rw [if_pos (show (some ms).isSome = true from rfl)]
      show (if ((valL 0 ns : Nat) : Int) = ((valL 0 ms : Nat) : Int) then some fits else some false) = _
      by_cases e : valL 0 ns = valL 0 ms
      · rw [if_pos (by rw [e]), e]; simp
      · rw [if_neg (by omega)]
        have : (valL 0 ns == valL 0 ms) = false := by simpa using e
        show some false = some (valL 0 ns == valL 0 ms && fits)
        rw [this]; rfl
  | none =>
    simp only [Option.bind_some]
    rw [if_neg (by simp), begins_f]
    simp only [Option.bind_some]
    obtain ⟨k, rfl⟩ : ∃ m, k = m + 2 := ⟨k - 2, by omega⟩
    have hiso : (!A.isSome) = A.isNone := by cases A <;> rfl
    cases hp : Lib.hasPrefix x.data.toList [42, 46] with
    | true =>
      rw [if_pos rfl, if_pos (by omega)]
      obtain ⟨r, hr⟩ := pre2 _ hp
      have hr2 := congrArg List.length hr
      rw [len_list] at hr2
      simp at hr2
      have e1 : (x.extract 1 x.size).data.toList = 46 :: r := by rw [ex_list, hr]; rfl
      have e2 : (x.extract 1 x.size).size = x.size - 1 := by rw [← len_list, e1]; simp; omega
      rw [j2_f _ _ _ _ _ _ (by omega) hn (by omega), e1, hiso]
      unfold domHit domL
      rw [if_pos hp, hr]
      simp
    | false =>
      rw [if_neg (by simp), j2_f _ _ _ _ _ _ (by omega) hn h0, hiso]
      unfold domHit domL
      rw [if_neg (by simp [hp])]
      by_cases h46 : x.data.toList.head? = some 46
      · rw [if_pos h46, h46]; simp
      · have : (x.data.toList.head? == some 46) = false := by simpa using h46
        rw [if_neg h46, this]
        simp [Bool.or_comm]
theorem j0_f (h p name port : ByteArray) (A : Option (List Nat)) (b : Bool) (hx : h.size ≤ 1000000) (hn : name.size ≤ 140737488351232) (hb : b = (h.data.toList == [])) (hb' : True) (k : Nat) (hk : 3 * h.size + 13 < k) (h0 : b = false → 0 < h.size) :
    Q.spec_target_isFor.j0 (k + 1) h p b name port (adI A) A.isSome = some (if b = true then false else match addrL h.data.toList with
      | some ns => match A with
        | some ms => valL 0 ns == valL 0 ms && fitL p.data.toList port.data.toList
        | none => false
      | none => A.isNone && fitL p.data.toList port.data.toList && domHit name.data.toList (domL h.data.toList)) := by
  rw [Q.spec_target_isFor.j0]
  cases b with
  | true => simp
  | false =>
    rw [if_neg (show ¬ ((false : Bool) = true) from by simp), if_neg (show ¬ ((false : Bool) = true) from by simp)]
    obtain ⟨k, rfl⟩ : ∃ m, k = m + 1 := ⟨k - 1, by omega⟩
    have hf : fitL p.data.toList port.data.toList = bif p.data.toList.isEmpty then true else p.toList == port.toList := by
      unfold fitL
      rw [ByteArray.toList_eq, ByteArray.toList_eq]
      cases p.data.toList.isEmpty <;> simp
    rw [hf]
    by_cases hp : p.data.toList = []
    · rw [if_pos (by rw [ByteArray.toList_eq]; exact hp), j1_f _ _ _ _ _ hx hn (h0 rfl) k (by omega), hp]
      rfl
    · rw [if_neg (by rw [ByteArray.toList_eq]; exact hp), j1_f _ _ _ _ _ hx hn (h0 rfl) k (by omega)]
      have : p.data.toList.isEmpty = false := by simpa using hp
      rw [this]
      rfl
theorem isFor_f (name port q : ByteArray) (A : Option (List Nat)) (hA : ∀ ms, A = some ms → ms.length = 4 ∧ ∀ n ∈ ms, n ≤ 255) (hq : q.size ≤ 1000000) (hn : name.size ≤ 140737488351232) (h0 : 0 < q.size) (k : Nat) (hk : 3 * q.size + 20 < k) :
    Q.spec_target_isFor.f k name port (adI A) A.isSome q = some (forL name.data.toList port.data.toList A q.data.toList) := by
  unfold Q.spec_target_isFor.f
  obtain ⟨x, y, z, hN, hz⟩ := network_f q hq k (by omega)
  rw [hN]
  simp only [Option.bind_some]
  unfold forL
  cases hnet : netL q.data.toList with
  | some nn =>
    obtain ⟨ns, n⟩ := nn
    rw [hnet] at hz
    obtain ⟨rfl, rfl, rfl⟩ := hz
    rw [if_pos rfl]
    cases A with
    | none => simp
    | some ms =>
      obtain ⟨h4, h5⟩ : (ns.length = 4 ∧ ∀ n ∈ ns, n ≤ 255) ∧ n ≤ 32 := by
        unfold netL at hnet
        split at hnet
        · cases hnet
        · split at hnet
          · rename_i e1 e2
            split at hnet
            · cases hnet
            · cases hnet
              exact ⟨addrL_some e1, numL_le (by omega) e2⟩
          · cases hnet
      obtain ⟨m4, m5⟩ := hA ms rfl
      rw [if_pos (show (some ms).isSome = true from rfl), begin_f _ _ (valL_small h4.1 h4.2) h5]
      show (some _).bind (fun t291 => (Q.spec_begin.f ((valL 0 ms : Nat) : Int) n).bind _) = _
      rw [begin_f _ _ (valL_small m4 m5) h5]
      simp only [Option.bind_some]
      congr 1
      rw [Bool.eq_iff_iff, beq_iff_eq, beq_iff_eq]
      omega
  | none =>
    rw [hnet] at hz
    subst hz
    rw [if_neg (by simp), show (58 : Int) = ((58 : Nat) : Int) from rfl, cut_f q 58 (by omega) k (by omega)]
    unfold entL
    obtain ⟨k, rfl⟩ : ∃ m, k = m + 1 := ⟨k - 1, by omega⟩
    cases hc : cutL 58 q.data.toList with
    | none =>
      simp only [Option.bind_some]
      rw [if_neg (by simp), j0_f q ⟨#[]⟩ name port A false hq hn (by
        symm
        have : q.data.toList ≠ [] := by
          intro e
          have h1 : q.data.toList.length = 0 := by rw [e]; rfl
          rw [len_list] at h1
          omega
        simpa using this) trivial k (by omega) (fun _ => h0)]
      simp
    | some hp =>
      obtain ⟨h, p⟩ := hp
      have hl := cutL_size hc
      rw [len_list] at hl
      simp only [Option.bind_some, if_true]
      rw [bA_toList]
      by_cases he : h = []
      · subst he
        rw [j0_f (bA []) (bA p) name port A _ (by rw [bA_size]; simp) hn (by rw [bA_list]) trivial k (by rw [bA_size]; simp; omega) (by simp)]
        simp
      · have e2 : (h == ([] : List UInt8)) = false := by simpa using he
        rw [e2, j0_f (bA h) (bA p) name port A false (by rw [bA_size]; omega) hn (by rw [bA_list]; exact e2.symm) trivial k (by rw [bA_size]; omega) (fun _ => by
          rw [bA_size]
          exact len_pos he)]
        rw [if_neg he, bA_list, bA_list]
        simp
end Go.Proofs.YtpemdpfageikfaaGreatDoor.R
/- Plain laws: an address of four numbers as netip keeps it, its mask, and whether it is another one. -/
namespace Go.Proofs.YtpemdpfageikfaaGreatDoor.R
open Go.RowKit Go.Proofs.YtpemdpfageikfaaGreatDoorW.PrintWords Go.Proofs.YtpemdpfageikfaaGreatDoorW.PrintLast Go.Proofs.YtpemdpfageikfaaGreatDoorW.PrintMore

def ints (ns : List Nat) : List Int := ns.map fun n : Nat => (n : Int)
theorem str_ints (l : List Nat) : (strOfNums (ints l)).toList = l.map UInt8.ofNat := by
  rw [ByteArray.toList_eq]
  simp [strOfNums, ints, Function.comp_def]
theorem eq_ints : ∀ (l m : List Nat), (∀ n ∈ l, n ≤ 255) → (∀ n ∈ m, n ≤ 255) → (l.map UInt8.ofNat == m.map UInt8.ofNat) = (l == m)
  | [], [], _, _ => rfl
  | [], _ :: _, _, _ => rfl
  | _ :: _, [], _, _ => rfl
  | a :: l, b :: m, h, h' => by
    have ih := eq_ints l m (fun n hn => h n (by simp [hn])) fun n hn => h' n (by simp [hn])
    rw [List.map_cons, List.map_cons, List.cons_beq_cons, List.cons_beq_cons, ih]
    congr 1
    have h1 := h a (by simp)
    have h2 := h' b (by simp)
    rw [Bool.eq_iff_iff, beq_iff_eq, beq_iff_eq]
    constructor
    · intro e
      have := congrArg UInt8.toNat e
      rw [UInt8.toNat_ofNat', UInt8.toNat_ofNat'] at this
      omega
    · intro e; rw [e]
theorem bytes_eq_f (l m : List Nat) (h : ∀ n ∈ l, n ≤ 255) (h' : ∀ n ∈ m, n ≤ 255) : Q.bytes_Equal.f (ints l) (ints m) = some (l == m) := by
  unfold Q.bytes_Equal.f
  rw [str_ints, str_ints, eq_ints l m h h']
/-- The address of four numbers. -/
def ad4 (ns : List Nat) : Bool × Int × Int := (false, 0, lo4of (ints ns))
theorem setFrom4 (ns : List Nat) (h : ns.length = 4) : setFrom [0, 0, 0, 0] 0 ns = ints ns := by
  match ns, h with
  | [a, b, c, d], _ => rfl
theorem four_ad (l : List UInt8) : (four l).map (fun fs => ((false, 0, lo4of fs) : Bool × Int × Int)) = (addrL l).map ad4 := by
  rw [four_addr]
  cases h : addrL l with
  | none => rfl
  | some ns =>
    simp only [Option.map_some]
    rw [setFrom4 ns (addrL_some h).1]
    rfl
theorem ad4_in (ns : List Nat) (h : ns.length = 4) (hb : ∀ n ∈ ns, n ≤ 255) : In64 (ad4 ns).2.1 ∧ In64 (ad4 ns).2.2 := by
  match ns, h with
  | [a, b, c, d], _ =>
    have h1 := hb a (by simp)
    have h2 := hb b (by simp)
    have h3 := hb c (by simp)
    have h4 := hb d (by simp)
    simp only [ad4, lo4of, ints, In64, List.map, List.getD_cons_zero, List.getD_cons_succ]
    omega
theorem ad4_b16 (ns : List Nat) (h : ns.length = 4) (hb : ∀ n ∈ ns, n ≤ 255) : b16 (ad4 ns) = ints ([0, 0, 0, 0, 0, 0, 0, 0, 0, 0, 255, 255] ++ ns) := by
  match ns, h with
  | [a, b, c, d], _ =>
    have h1 := hb a (by simp)
    have h2 := hb b (by simp)
    have h3 := hb c (by simp)
    have h4 := hb d (by simp)
    simp only [b16, bytes64, ad4, lo4of, ints, List.map, List.getD_cons_zero, List.getD_cons_succ, List.cons_append, List.nil_append]
    refine congr (congrArg List.cons (by omega)) ?_
    refine congr (congrArg List.cons (by omega)) ?_
    refine congr (congrArg List.cons (by omega)) ?_
    refine congr (congrArg List.cons (by omega)) ?_
    refine congr (congrArg List.cons (by omega)) ?_
    refine congr (congrArg List.cons (by omega)) ?_
    refine congr (congrArg List.cons (by omega)) ?_
    refine congr (congrArg List.cons (by omega)) ?_
    refine congr (congrArg List.cons (by omega)) ?_
    refine congr (congrArg List.cons (by omega)) ?_
    refine congr (congrArg List.cons (by omega)) ?_
    refine congr (congrArg List.cons (by omega)) ?_
    refine congr (congrArg List.cons (by omega)) ?_
    refine congr (congrArg List.cons (by omega)) ?_
    refine congr (congrArg List.cons (by omega)) ?_
    refine congr (congrArg List.cons (by omega)) ?_
    rfl
theorem ad4_ys (ns : List Nat) (h : ns.length = 4) (hb : ∀ n ∈ ns, n ≤ 255) : ysOf (ad4 ns) = ints ns := by
  match ns, h with
  | [a, b, c, d], _ =>
    have h1 := hb a (by simp)
    have h2 := hb b (by simp)
    have h3 := hb c (by simp)
    have h4 := hb d (by simp)
    simp only [ysOf, bytes32, ad4, lo4of, ints, List.map, List.getD_cons_zero, List.getD_cons_succ, cond_false]
    refine congr (congrArg List.cons (by omega)) ?_
    refine congr (congrArg List.cons (by omega)) ?_
    refine congr (congrArg List.cons (by omega)) ?_
    refine congr (congrArg List.cons (by omega)) ?_
    rfl
theorem ad4_lb (ns : List Nat) (h : ns.length = 4) (hb : ∀ n ∈ ns, n ≤ 255) : lbOf (ad4 ns) = (((valL 0 ns : Nat) : Int) / 16777216 == 127) := by
  have e : lbOf (ad4 ns) = ((ysOf (ad4 ns)).getD 0 0 == 127) := rfl
  rw [e, ad4_ys ns h hb]
  match ns, h with
  | [a, b, c, d], _ =>
    have h1 := hb a (by simp)
    have h2 := hb b (by simp)
    have h3 := hb c (by simp)
    have h4 := hb d (by simp)
    have hv : valL 0 [a, b, c, d] = ((a * 256 + b) * 256 + c) * 256 + d := by simp [valL]
    rw [hv]
    simp only [ints, List.map, List.getD_cons_zero]
    rw [Bool.eq_iff_iff, beq_iff_eq, beq_iff_eq]
    omega
theorem val_B (ns : List Nat) (h : ns.length = 4) : valL 0 ns = valB ns := by
  match ns, h with
  | [a, b, c, d], _ =>
    simp [valL, valB]
    omega
/-- The bytes of a masked address. -/
def mask4 (ns : List Nat) (n : Nat) : List Int := [bits .and .u8 (ns.getD 0 0 : Nat) (maskByte n 0), bits .and .u8 (ns.getD 1 0 : Nat) (maskByte n 1), bits .and .u8 (ns.getD 2 0 : Nat) (maskByte n 2), bits .and .u8 (ns.getD 3 0 : Nat) (maskByte n 3)]
theorem mask_up4 (n : Nat) : maskUpTo n 4 4 = [maskByte n 0, maskByte n 1, maskByte n 2, maskByte n 3] := by
  simp [maskUpTo, List.range_succ]
theorem mask_f (ns : List Nat) (n : Nat) (h : ns.length = 4) (hb : ∀ n ∈ ns, n ≤ 255) (k : Nat) : Q.netcidr_IP_Mask.f (k + 20) (b16 (ad4 ns)) (maskUpTo n (lenOf (ad4 ns)) (lenOf (ad4 ns))) = some (mask4 ns n) := by
  have hl : lenOf (ad4 ns) = 4 := rfl
  rw [hl, ad4_b16 ns h hb, mask_up4]
  match ns, h with
  | [a, b, c, d], _ =>
    unfold mask4
    generalize maskByte n 0 = m0
    generalize maskByte n 1 = m1
    generalize maskByte n 2 = m2
    generalize maskByte n 3 = m3
    have hp : Q.bytes_Equal.f ((ints ([0, 0, 0, 0, 0, 0, 0, 0, 0, 0, 255, 255] ++ [a, b, c, d])).take 12) [0, 0, 0, 0, 0, 0, 0, 0, 0, 0, 255, 255] = some true := by
      have := bytes_eq_f [0, 0, 0, 0, 0, 0, 0, 0, 0, 0, 255, 255] [0, 0, 0, 0, 0, 0, 0, 0, 0, 0, 255, 255] (by decide) (by decide)
      exact this
    have hd : (ints ([0, 0, 0, 0, 0, 0, 0, 0, 0, 0, 255, 255] ++ [a, b, c, d])).drop 12 = [(a : Int), b, c, d] := rfl
    have hl16 : ((ints ([0, 0, 0, 0, 0, 0, 0, 0, 0, 0, 255, 255] ++ [a, b, c, d])).length : Int) = 16 := rfl
    generalize ints ([0, 0, 0, 0, 0, 0, 0, 0, 0, 0, 255, 255] ++ [a, b, c, d]) = l at hp hd hl16
    unfold Q.netcidr_IP_Mask.f
    rw [if_neg (by simp), Q.netcidr_IP_Mask.j0, if_neg (by simp), Q.netcidr_IP_Mask.j1, if_pos (by simp), if_pos hl16, if_pos (by omega)]
    unfold Q.netcidr_v4InV6Prefix.f
    rw [Option.bind_some, hp, Option.bind_some, Q.netcidr_IP_Mask.j2, if_pos rfl, if_pos (by omega), hd, Q.netcidr_IP_Mask.j3, if_pos (by simp), if_pos (by simp), if_pos (by simp)]
    simp [Q.netcidr_IP_Mask.l0, rd, wrap64, List.replicate]
theorem hit_net (ns ms : List Nat) (n : Nat) (h : ns.length = 4) (hb : ∀ n ∈ ns, n ≤ 255) (h' : ms.length = 4) (hb' : ∀ n ∈ ms, n ≤ 255) (hn : n ≤ 32) :
    sameMasked 4 (mask4 ns n) (maskUpTo n 4 4) (ints ms) = (valL 0 ns / 2 ^ (32 - n) == valL 0 ms / 2 ^ (32 - n)) := by
  rw [val_B ns h, val_B ms h']
  have hp := pre_val ns ms n (by omega) (fun x hx => by have := hb x hx; omega) (fun x hx => by have := hb' x hx; omega) (by omega)
  rw [h] at hp
  rw [hp]
  refine same_pre 4 n ns ms h h' (fun x hx => by have := hb x hx; omega) (fun x hx => by have := hb' x hx; omega) _ _ ?_ ?_
  · intro k hk
    match k, hk with
    | 0, _ => rfl
    | 1, _ => rfl
    | 2, _ => rfl
    | 3, _ => rfl
  · intro k hk
    match ms, h' with
    | [a, b, c, d], _ =>
      match k, hk with
      | 0, _ => rfl
      | 1, _ => rfl
      | 2, _ => rfl
      | 3, _ => rfl
theorem pre12 : ([0, 0, 0, 0, 0, 0, 0, 0, 0, 0, 255, 255] : List Int) = ints [0, 0, 0, 0, 0, 0, 0, 0, 0, 0, 255, 255] := rfl
theorem equal_f (ns ms : List Nat) (h : ns.length = 4) (hb : ∀ n ∈ ns, n ≤ 255) (h' : ms.length = 4) (hb' : ∀ n ∈ ms, n ≤ 255) : Q.netcidr_IP_Equal.f 3 (b16 (ad4 ns)) (ints ms) = some (ns == ms) := by
  rw [ad4_b16 ns h hb]
  match ns, h with
  | [a, b, c, d], _ =>
    have hp : Q.bytes_Equal.f (((ints ([0, 0, 0, 0, 0, 0, 0, 0, 0, 0, 255, 255] ++ [a, b, c, d])).take 12).drop 0) [0, 0, 0, 0, 0, 0, 0, 0, 0, 0, 255, 255] = some true := by
      have := bytes_eq_f [0, 0, 0, 0, 0, 0, 0, 0, 0, 0, 255, 255] [0, 0, 0, 0, 0, 0, 0, 0, 0, 0, 255, 255] (by decide) (by decide)
      exact this
    have hd : Q.bytes_Equal.f ((ints ([0, 0, 0, 0, 0, 0, 0, 0, 0, 0, 255, 255] ++ [a, b, c, d])).drop 12) (ints ms) = some ([a, b, c, d] == ms) := bytes_eq_f [a, b, c, d] ms hb hb'
    have hl16 : (ints ([0, 0, 0, 0, 0, 0, 0, 0, 0, 0, 255, 255] ++ [a, b, c, d])).length = 16 := rfl
    have hl4 : (ints ms).length = 4 := by simp [ints, h']
    generalize ints ([0, 0, 0, 0, 0, 0, 0, 0, 0, 0, 255, 255] ++ [a, b, c, d]) = l at hp hd hl16
    unfold Q.netcidr_IP_Equal.f
    rw [hl16, hl4, if_neg (by omega), if_neg (by omega), Q.netcidr_IP_Equal.j0, if_neg (by simp), hl16, if_pos (by omega), hl4, Q.netcidr_IP_Equal.j1, if_pos (by simp), if_pos (by omega), hl16, if_pos (by omega)]
    unfold Q.netcidr_v4InV6Prefix.f
    rw [Option.bind_some, hp, Option.bind_some, if_pos rfl, hd, Option.bind_some]
theorem val_eq (ns ms : List Nat) (h : ns.length = 4) (hb : ∀ n ∈ ns, n ≤ 255) (h' : ms.length = 4) (hb' : ∀ n ∈ ms, n ≤ 255) : (valL 0 ns == valL 0 ms) = (ns == ms) := by
  match ns, h with
  | [a, b, c, d], _ =>
    match ms, h' with
    | [x, y, z, u], _ =>
      have h1 := hb a (by simp)
      have h2 := hb b (by simp)
      have h3 := hb c (by simp)
      have h4 := hb d (by simp)
      have g1 := hb' x (by simp)
      have g2 := hb' y (by simp)
      have g3 := hb' z (by simp)
      have g4 := hb' u (by simp)
      have hv : valL 0 [a, b, c, d] = ((a * 256 + b) * 256 + c) * 256 + d := by simp [valL]
      have hw : valL 0 [x, y, z, u] = ((x * 256 + y) * 256 + z) * 256 + u := by simp [valL]
      rw [hv, hw, Bool.eq_iff_iff, beq_iff_eq, beq_iff_eq]
      simp only [List.cons.injEq, and_true]
      omega
end Go.Proofs.YtpemdpfageikfaaGreatDoor.R
/- Plain laws: a host and its port, where there are no brackets. -/
namespace Go.Proofs.YtpemdpfageikfaaGreatDoor.R
open Go.RowKit Go.Proofs.YtpemdpfageikfaaGreatDoorW.PrintWords Go.Proofs.YtpemdpfageikfaaGreatDoorW.PrintLast Go.Proofs.YtpemdpfageikfaaGreatDoorW.PrintMore

theorem first_none (c : Nat) : ∀ l : List UInt8, cnt c l = 0 → first c l = none
  | [], _ => rfl
  | x :: r, h => by
    rw [cnt_cons] at h
    by_cases hx : x.toNat = c
    · rw [if_pos hx] at h; omega
    · rw [if_neg hx] at h
      rw [first, if_neg hx, first_none c r (by omega)]
      rfl
theorem first_some (c : Nat) : ∀ l : List UInt8, 0 < cnt c l → ∃ i, first c l = some i
  | [], h => by simp [cnt] at h
  | x :: r, h => by
    rw [cnt_cons] at h
    by_cases hx : x.toNat = c
    · exact ⟨0, by rw [first, if_pos hx]⟩
    · rw [if_neg hx] at h
      obtain ⟨i, hi⟩ := first_some c r (by omega)
      exact ⟨i + 1, by rw [first, if_neg hx, hi]; rfl⟩
theorem ib_first (c : UInt8) : ∀ l : List UInt8, Lib.indexByte l c = match first c.toNat l with
    | none => -1
    | some i => (i : Int)
  | [] => rfl
  | x :: r => by
    rw [Lib.indexByte, first, ib_first c r]
    by_cases hx : x = c
    · subst hx; simp
    · have h1 : (x == c) = false := by simpa using hx
      have h2 : ¬ x.toNat = c.toNat := fun e => hx (UInt8.toNat_inj.1 e)
      rw [if_neg h2]
      cases first c.toNat r with
      | none => simp [h1]
      | some i =>
        have h3 : (((i : Nat) : Int) == -1) = false := by rw [beq_eq_false_iff_ne]; omega
        simp [h1, h3]
theorem ib_none (c : UInt8) (l : List UInt8) (h : cnt c.toNat l = 0) : Lib.indexByte l c = -1 := by
  rw [ib_first, first_none _ l h]
theorem ib_at (c : UInt8) (l : List UInt8) (i : Nat) (h : first c.toNat l = some i) : Lib.indexByte l c = i := by
  rw [ib_first, h]
theorem cnt_app (c : Nat) (a b : List UInt8) : cnt c (a ++ b) = cnt c a + cnt c b := by simp [cnt]
theorem cnt_sub {c : Nat} {a b : List UInt8} (h : a.Sublist b) : cnt c a ≤ cnt c b := List.Sublist.countP_le h
/-- The last one. -/
theorem last_cut (c : UInt8) : ∀ l : List UInt8, 0 < cnt c.toNat l → ∃ a b, l = a ++ c :: b ∧ cnt c.toNat b = 0 ∧ cnt c.toNat a + 1 = cnt c.toNat l
  | [], h => by simp [cnt] at h
  | x :: r, h => by
    by_cases hr : 0 < cnt c.toNat r
    · obtain ⟨a, b, h1, h2, h3⟩ := last_cut c r hr
      refine ⟨x :: a, b, by rw [h1]; rfl, h2, ?_⟩
      rw [cnt_cons, cnt_cons]
      omega
    · rw [cnt_cons] at h
      by_cases hx : x.toNat = c.toNat
      · refine ⟨[], r, by rw [UInt8.toNat_inj.1 hx]; rfl, by omega, ?_⟩
        rw [cnt_cons, if_pos hx]
        simp [cnt] at hr ⊢
        omega
      · rw [if_neg hx] at h; omega
theorem li_at (s : ByteArray) (c : UInt8) (a b : List UInt8) (h : s.data.toList = a ++ c :: b) (hb : cnt c.toNat b = 0) : Lib.lastIndexByte s (c.toNat : Int) = a.length := by
  have hsz : s.size = a.length + 1 + b.length := by rw [← len_list, h]; simp; omega
  have hg : ∀ j, s.data[j]! = (a ++ c :: b)[j]! := fun j => by
    rw [← h]
    by_cases hj : j < s.data.size
    · rw [getElem!_pos s.data j hj, getElem!_pos s.data.toList j (by simpa using hj), Array.getElem_toList]
    · rw [getElem!_neg s.data j hj, getElem!_neg s.data.toList j (by simpa using hj)]
  have hat : ((s.data[a.length]!).toNat : Int) = (c.toNat : Int) := by rw [hg]; simp
  rcases Lib.lastIndexByte_spec s (c.toNat : Int) with ⟨_, hn⟩ | ⟨i, hi, e, hc, hn⟩
  · exact absurd hat (hn _ (by omega))
  · rw [e]
    by_cases h1 : i < a.length
    · exact absurd hat (hn _ h1 (by omega))
    · by_cases h2 : i = a.length
      · rw [h2]
      · exfalso
        rw [hg] at hc
        obtain ⟨j, rfl⟩ : ∃ j, i = a.length + (j + 1) := ⟨i - a.length - 1, by omega⟩
        have hj : j < b.length := by omega
        have e3 : (a ++ c :: b)[a.length + (j + 1)]! = b[j] := by
          rw [List.getElem!_eq_getElem?_getD, List.getElem?_append_right (by omega)]
          simp [hj]
        rw [e3] at hc
        have : 0 < cnt c.toNat b := by
          unfold cnt
          rw [List.countP_pos_iff]
          exact ⟨b[j], List.getElem_mem _, by simp; omega⟩
        omega
theorem li_none (s : ByteArray) (c : UInt8) (h : cnt c.toNat s.data.toList = 0) : Lib.lastIndexByte s (c.toNat : Int) = -1 := by
  rcases Lib.lastIndexByte_spec s (c.toNat : Int) with ⟨e, _⟩ | ⟨i, hi, e, hc, hn⟩
  · exact e
  · exfalso
    have hl : i < s.data.toList.length := by rw [len_list]; exact hi
    have : 0 < cnt c.toNat s.data.toList := by
      unfold cnt
      rw [List.countP_pos_iff]
      refine ⟨s.data.toList[i], List.getElem_mem _, ?_⟩
      have e2 : s.data[i]! = s.data.toList[i] := by
        rw [getElem!_pos s.data i hi]; simp
      rw [e2] at hc
      simp only [beq_iff_eq]
      omega
    omega
theorem head_ne (s : ByteArray) (h0 : 0 < s.size) (c : Nat) (h : cnt c s.data.toList = 0) : ((((s[0]'h0).toNat : Nat) : Int) == (c : Int)) = false := by
  rw [beq_eq_false_iff_ne]
  intro e
  have : 0 < cnt c s.data.toList := by
    unfold cnt
    rw [List.countP_pos_iff]
    refine ⟨s[0]'h0, ?_, by simp only [beq_iff_eq]; omega⟩
    have : s[0]'h0 = s.data.toList[0]'(by rw [len_list]; exact h0) := by simp; rfl
    rw [this]
    exact List.getElem_mem _
  omega
theorem cutL_spec {c : UInt8} {l a b : List UInt8} (h : cutL c.toNat l = some (a, b)) : l = a ++ c :: b ∧ cnt c.toNat a = 0 := by
  induction l generalizing a b with
  | nil => cases h
  | cons x r ih =>
    unfold cutL at h ih
    rw [first] at h
    by_cases hx : x.toNat = c.toNat
    · rw [if_pos hx] at h
      simp at h
      obtain ⟨rfl, rfl⟩ := h
      rw [UInt8.toNat_inj.1 hx]
      exact ⟨rfl, rfl⟩
    · rw [if_neg hx] at h
      cases hf : first c.toNat r with
      | none => rw [hf] at h; cases h
      | some i =>
        rw [hf] at h ih
        simp at h
        obtain ⟨rfl, rfl⟩ := h
        obtain ⟨h1, h2⟩ := ih (a := r.take i) (b := r.drop (i + 1)) rfl
        refine ⟨by rw [List.cons_append, ← h1], ?_⟩
        rw [cnt_cons, if_neg hx, h2]
theorem cutL_none {c : Nat} {l : List UInt8} (h : cutL c l = none) : cnt c l = 0 := by
  by_cases h0 : 0 < cnt c l
  · obtain ⟨i, hi⟩ := first_some c l h0
    unfold cutL at h
    rw [hi] at h
    cases h
  · omega
theorem host_none (s : ByteArray) (hs : s.size ≤ 140737488351232) (h : cnt 58 s.data.toList = 0) (w : World) : Calls Tryz.prog 49 #[.string s] w (NoHost w) :=
  split_no s w hs (li_none s 58 h)
theorem host_many (s : ByteArray) (hs : s.size ≤ 140737488351232) (h : 2 ≤ cnt 58 s.data.toList) (h91 : cnt 91 s.data.toList = 0) (w : World) : Calls Tryz.prog 49 #[.string s] w (NoHost w) := by
  obtain ⟨a, b, h1, h2, h3⟩ := last_cut 58 s.data.toList (by show 0 < cnt 58 _; omega)
  have hsz : s.size = a.length + 1 + b.length := by rw [← len_list, h1]; simp; omega
  have h3' : cnt 58 a + 1 = cnt 58 s.data.toList := h3
  obtain ⟨i, hi⟩ := first_some 58 a (by omega)
  refine split_many s a.length i w hs (li_at s 58 a b h1 h2) (by omega) _ rfl (head_ne s (by omega) 91 h91) ?_ (by omega)
  rw [ex_list0, h1, List.take_left]
  exact ib_at 58 a i hi
theorem host_one (s : ByteArray) (hs : s.size ≤ 140737488351232) (a b : List UInt8) (h : cutL 58 s.data.toList = some (a, b)) (hb : cnt 58 b = 0) (h91 : cnt 91 s.data.toList = 0) (h93 : cnt 93 s.data.toList = 0) (w : World) : Calls Tryz.prog 49 #[.string s] w (Host w (bA a) (bA b)) := by
  obtain ⟨h1, h2⟩ := cutL_spec (c := 58) h
  have hsz : s.size = a.length + 1 + b.length := by rw [← len_list, h1]; simp; omega
  have e1 : (s.extract 0 a.length).data.toList = a := by rw [ex_list0, h1, List.take_left]
  have := split_one s a.length w hs (li_at s 58 a b h1 hb) (by omega) _ rfl (head_ne s (by omega) 91 h91) (by rw [e1]; exact ib_none 58 a h2) (ib_none 91 _ h91) (ib_none 93 _ h93)
  have e2 : s.extract 0 a.length = bA a := by rw [← bA_of (s.extract 0 a.length), e1]
  have e3 : s.extract (a.length + 1) s.size = bA b := by
    rw [← bA_of (s.extract (a.length + 1) s.size), ex_list, h1]
    congr 1
    rw [← List.drop_drop, List.drop_left]
    rfl
  rw [e2, e3] at this
  exact this
end Go.Proofs.YtpemdpfageikfaaGreatDoor.R
