/- FnUseSix: what the program says. -/
import Derived.Test.YtpemdpfageikfaaGreatDoorZT
import Derived.Test.YtpemdpfageikfaaGreatDoorZR
import Derived.Test.YtpemdpfageikfaaGreatDoorZN
import Derived.Test.YtpemdpfageikfaaGreatDoorZQf
set_option linter.unusedVariables false
set_option linter.unusedSimpArgs false
/- An address of 128 bits: as a host and as an entry, by the program. -/
namespace Go.Proofs.YtpemdpfageikfaaGreatDoor.R
open Go.RowKit Go.Proofs.YtpemdpfageikfaaGreatDoorW.PrintWords Go.Proofs.YtpemdpfageikfaaGreatDoorW.PrintLast Go.Proofs.YtpemdpfageikfaaGreatDoorW.PrintMore

theorem plain_4in6 {a : List Nat} (hl : a.length = 16) (hb : ∀ x ∈ a, x ≤ 255) (hp : Plain a) : is4in6 (ints a) = false := by
  unfold is4in6
  rw [plain_ten a hl hb hp]
  rfl
theorem and_all {x n k : Nat} (hx : x ≤ 255) (h : 8 ≤ n - 8 * k) : bits .and .u8 (x : Int) (maskByte n k) = (x : Int) := by
  rw [and_mask x n k (by omega), show 8 - (n - 8 * k) = 0 from by omega]
  simp
theorem mask_4in6 {a : List Nat} (n : Nat) (hl : a.length = 16) (hb : ∀ x ∈ a, x ≤ 255) (hp : Plain a) : is4in6 (mask16 a n) = false := by
  rw [Bool.eq_false_iff]
  intro h
  unfold is4in6 at h
  rw [Bool.and_eq_true, Bool.and_eq_true, beq_iff_eq] at h
  obtain ⟨⟨h1, h2⟩, -⟩ := h
  have hd : ∀ k, a.getD k 0 ≤ 255 := fun k => by
    rw [List.getD_eq_getElem?_getD]
    cases e : a[k]? with
    | none => simp
    | some x => exact hb x (List.mem_of_getElem? e)
  have e10 : (mask16 a n).getD 10 0 = bits .and .u8 (a.getD 10 0 : Nat) (maskByte n 10) := rfl
  rw [e10, and_mask _ n 10 (by have := hd 10; omega)] at h2
  have h3 : a.getD 10 0 / 2 ^ (8 - (n - 8 * 10)) * 2 ^ (8 - (n - 8 * 10)) = 255 := by
    generalize a.getD 10 0 / 2 ^ (8 - (n - 8 * 10)) * 2 ^ (8 - (n - 8 * 10)) = P at h2 ⊢
    omega
  have hn : 88 ≤ n := by
    by_cases hs : 8 - (n - 8 * 10) = 0
    · omega
    · exfalso
      obtain ⟨t, ht⟩ : ∃ t, 8 - (n - 8 * 10) = t + 1 := ⟨8 - (n - 8 * 10) - 1, by omega⟩
      rw [ht] at h3
      generalize a.getD 10 0 / 2 ^ (t + 1) = y at h3
      rw [Nat.pow_succ, ← Nat.mul_assoc] at h3
      omega
  have e : (mask16 a n).take 10 = (ints a).take 10 := by
    have hk : ∀ k, k < 10 → bits .and .u8 (a.getD k 0 : Nat) (maskByte n k) = ((a.getD k 0 : Nat) : Int) := fun k hk => and_all (hd k) (by omega)
    unfold mask16
    rw [hk 0 (by omega), hk 1 (by omega), hk 2 (by omega), hk 3 (by omega), hk 4 (by omega), hk 5 (by omega), hk 6 (by omega), hk 7 (by omega), hk 8 (by omega), hk 9 (by omega)]
    match a, hl with
    | [_, _, _, _, _, _, _, _, _, _, _, _, _, _, _, _], _ => rfl
  rw [e, plain_ten a hl hb hp] at h1
  cases h1
theorem plain_lb {a : List Nat} (hl : a.length = 16) (hb : ∀ x ∈ a, x ≤ 255) (hp : Plain a) : lbOf (ad6 a) = false := by
  show (b16 (ad6 a) == [0, 0, 0, 0, 0, 0, 0, 0, 0, 0, 0, 0, 0, 0, 0, 1]) = false
  rw [(ad6_all a hl hb).1, Bool.eq_false_iff]
  intro h
  rw [beq_iff_eq] at h
  have := plain_ten a hl hb hp
  rw [h] at this
  cases this
theorem int_byt {a : List Nat} (hb : ∀ x ∈ a, x ≤ 255) : ∀ x ∈ ints a, 0 ≤ x ∧ x ≤ 255 := by
  intro x hx
  obtain ⟨y, hy, rfl⟩ := List.mem_map.1 hx
  have := hb y hy
  omega
/-! The text of the address. -/
def txt (a : List Nat) : List UInt8 := outK (ints a) 8
theorem txt_len {a : List Nat} (hb : ∀ x ∈ a, x ≤ 255) : (txt a).length ≤ 40 := outK_len (int_byt hb) 8
theorem txt_mem {a : List Nat} (hb : ∀ x ∈ a, x ≤ 255) : ∀ x ∈ txt a, TxtB x := outK_mem (int_byt hb)
theorem txt_cnt {a : List Nat} (hb : ∀ x ∈ a, x ≤ 255) (c : Nat) (h1 : c < 48 ∨ 58 < c) (h2 : c < 97 ∨ 102 < c) : cnt c (txt a) = 0 := by
  unfold cnt
  rw [List.countP_eq_zero]
  intro x hx
  have := txt_mem hb x hx
  unfold TxtB HexB at this
  simp only [beq_iff_eq]
  omega
theorem txt_colons (a : List Nat) (hl : a.length = 16) : 2 ≤ cnt 58 (txt a) := by
  unfold txt
  rw [outK_tail]
  simp only [tailG, cnt_app, cnt_cons]
  rw [if_pos (show UInt8.toNat 58 = 58 from rfl)]
  omega
theorem txt_ne (a : List Nat) : txt a ≠ [] := by
  unfold txt
  rw [outK_tail]
  exact tailG_ne _ _
theorem txt_sep {a : List Nat} (hl : a.length = 16) (hb : ∀ x ∈ a, x ≤ 255) : sep (txt a) = some 58 := by
  unfold sep
  cases hf : List.find? (fun c : UInt8 => c.toNat == 46 || c.toNat == 58 || c.toNat == 37) (txt a) with
  | none =>
    exfalso
    rw [List.find?_eq_none] at hf
    have h2 := txt_colons a hl
    have : 0 < cnt 58 (txt a) := by omega
    unfold cnt at this
    rw [List.countP_pos_iff] at this
    obtain ⟨x, hx, h⟩ := this
    have := hf x hx
    simp only [beq_iff_eq] at h
    simp [h] at this
  | some c =>
    have h1 := List.find?_some hf
    have h2 := txt_mem hb c (List.mem_of_find?_eq_some hf)
    congr 1
    apply UInt8.toNat_inj.1
    show c.toNat = 58
    unfold TxtB HexB at h2
    simp at h1
    omega
theorem pa_six (a : List Nat) (p4 p6 : Addr) (hl : a.length = 16) (hb : ∀ x ∈ a, x ≤ 255) : ∀ wx, Env wx p4 p6 → Calls Tryz.prog 53 #[.string (bA (txt a))] wx (PostPA p4 p6 wx (some (ad6 a))) := fun wx hx => by
  have hlen := txt_len hb
  obtain ⟨-, -, -, f1, f2⟩ := ad6_all a hl hb
  refine parseAddr (bA (txt a)) p4 p6 wx hx (by rw [bA_size]; omega) _ _ rfl ?_ ?_ ?_
  · intro h
    rw [bA_list, txt_sep hl hb] at h
    cases h
  · intro _ W hW
    refine parse6 (bA (txt a)) (ad6 a).2.1 (ad6 a).2.2 p4 p6 W hW (by rw [bA_size]; omega) (some (ints a)) (Or.inl ⟨ib_none 37 _ (by rw [bA_list]; exact txt_cnt hb 37 (by omega) (by omega)), ?_⟩) (fun bs e => by cases e; exact ⟨f1, f2⟩)
    refine ⟨by rw [bA_list]; exact outK_dbl (int_byt hb), Or.inl fun c hc => ?_, by rw [bA_list]; exact g6_out a hl hb _ rfl⟩
    rw [bA_list] at hc
    have := txt_mem hb c hc
    unfold TxtB HexB at this
    omega
  · intro _ h
    rw [bA_list, txt_sep hl hb] at h
    exact absurd rfl h
/-! The address with a port. -/
theorem first_app (c : UInt8) : ∀ (p r : List UInt8), cnt c.toNat p = 0 → first c.toNat (p ++ c :: r) = some p.length
  | [], r, _ => by rw [List.nil_append, first, if_pos rfl]; rfl
  | x :: p, r, h => by
    rw [cnt_cons] at h
    by_cases hx : x.toNat = c.toNat
    · rw [if_pos hx] at h; omega
    · rw [if_neg hx] at h
      rw [List.cons_append, first, if_neg hx, first_app c p r (by omega)]
      rfl
theorem cutL_app (c : UInt8) (p r : List UInt8) (h : cnt c.toNat p = 0) : cutL c.toNat (p ++ c :: r) = some (p, r) := by
  unfold cutL
  rw [first_app c p r h]
  simp
theorem host_br (s : ByteArray) (O P : List UInt8) (el : s.data.toList = 91 :: (O ++ 93 :: 58 :: P)) (hO : O.length ≤ 1000) (hP : P.length ≤ 1000) (t91 : cnt (91 : UInt8).toNat O = 0) (t93 : cnt (93 : UInt8).toNat O = 0) (h58 : cnt (58 : UInt8).toNat P = 0) (h91 : cnt (91 : UInt8).toNat P = 0) (h93 : cnt (93 : UInt8).toNat P = 0) (w : World) :
    Calls Tryz.prog 49 #[.string s] w (Host w (bA O) (bA P)) := by
  have es : s.size = O.length + 3 + P.length := by
    rw [← len_list, el]
    simp
    omega
  have hg : ((s[0]'(by omega)).toNat : Int) = 91 := by
    have : s[0]'(by omega) = s.data.toList[0]'(by rw [len_list]; omega) := by simp; rfl
    rw [this]
    simp only [el]
    rfl
  have e0 : (91 :: O ++ [93] : List UInt8).length = O.length + 2 := by simp
  have q1 : Lib.lastIndexByte s 58 = ((O.length + 2 : Nat) : Int) := by
    rw [← e0]
    exact li_at s 58 (91 :: O ++ [93]) P (by rw [el]; simp) h58
  have e3 : (91 :: O : List UInt8).length = O.length + 1 := by simp
  have q2 : Lib.indexByte s.data.toList 93 = ((O.length + 1 : Nat) : Int) := by
    rw [← e3]
    refine ib_at 93 _ _ ?_
    rw [el]
    exact first_app 93 (91 :: O) (58 :: P) (by rw [cnt_cons, if_neg (by decide), t93])
  have e1 : (s.extract 1 s.size).data.toList = O ++ 93 :: 58 :: P := by rw [ex_list, el]; rfl
  have e2 : (s.extract (O.length + 1 + 1) s.size).data.toList = 58 :: P := by
    rw [ex_list, el, List.drop_succ_cons, ← List.drop_drop, List.drop_left]
    rfl
  have := split_br s (O.length + 2) (O.length + 1) w (by omega) q1 (by omega) hg q2 (by omega) (by omega)
    (by rw [e1]; refine ib_none 91 _ ?_; rw [cnt_app, cnt_cons, cnt_cons, if_neg (by decide), if_neg (by decide), t91, h91])
    (by rw [e2]; refine ib_none 93 _ ?_; rw [cnt_cons, if_neg (by decide), h93])
  have f1 : s.extract 1 (O.length + 1) = bA O := by
    rw [extract_bA, el]
    congr 1
    simp
  have f2 : s.extract (O.length + 2 + 1) s.size = bA P := by
    apply bA_ext
    rw [ex_list, bA_list, el, List.drop_succ_cons, ← List.drop_drop, List.drop_left]
    rfl
  rw [f1, f2] at this
  exact this
theorem host_six (a : List Nat) (p : ByteArray) (hb : ∀ x ∈ a, x ≤ 255) (hp : p.size ≤ 1000) (h58 : cnt 58 p.data.toList = 0) (h91 : cnt 91 p.data.toList = 0) (h93 : cnt 93 p.data.toList = 0) (w : World) :
    Calls Tryz.prog 49 #[.string (sixA (ints a) p)] w (Host w (bA (txt a)) p) := by
  have hlen := txt_len hb
  have t91 := txt_cnt hb 91 (by omega) (by omega)
  have t93 := txt_cnt hb 93 (by omega) (by omega)
  have el : (sixA (ints a) p).data.toList = 91 :: (txt a ++ 93 :: 58 :: p.data.toList) := by
    unfold sixA txt
    simp [bA_list]
  have := host_br (sixA (ints a) p) (txt a) p.data.toList el (by omega) (by rw [len_list]; omega) t91 t93 h58 h91 h93 w
  rw [bA_of] at this
  exact this
end Go.Proofs.YtpemdpfageikfaaGreatDoor.R
/- FnUseSix: the entry, the rules, the program's answer. -/
namespace Go.Proofs.YtpemdpfageikfaaGreatDoor.R
open Go.RowKit Go.Proofs.YtpemdpfageikfaaGreatDoorW.PrintWords Go.Proofs.YtpemdpfageikfaaGreatDoorW.PrintLast Go.Proofs.YtpemdpfageikfaaGreatDoorW.PrintMore

/-! Decimal digits. -/
theorem dd_val (n : Nat) : (dd n).toNat = 48 + n % 10 := by
  unfold dd
  rw [UInt8.toNat_ofNat']
  omega
theorem decR_mem : ∀ (m n : Nat), n < 10 ^ m → ∀ x ∈ decR n, isDig x
  | 0, n, h, x, hx => by
    obtain rfl : n = 0 := by simpa using h
    rw [decR, dif_pos rfl] at hx
    simp at hx
  | m + 1, n, h, x, hx => by
    by_cases h0 : n = 0
    · subst h0; rw [decR, dif_pos rfl] at hx; simp at hx
    · rw [decR, dif_neg h0] at hx
      rcases List.mem_append.1 hx with hx | hx
      · exact decR_mem m (n / 10) (by rw [Nat.pow_succ] at h; omega) x hx
      · simp at hx; subst hx
        have := dd_val n
        unfold isDig
        omega
theorem decL_mem {n : Nat} (h : n < 1000) : ∀ x ∈ decL n, isDig x := by
  intro x hx
  rw [decL] at hx
  rcases List.mem_append.1 hx with hx | hx
  · exact decR_mem 2 (n / 10) (by show n / 10 < 100; omega) x hx
  · simp at hx; subst hx
    have := dd_val n
    unfold isDig
    omega
theorem num_decR (M : Nat) : ∀ (m n : Nat) (r : List UInt8), n < 10 ^ m → n ≤ M → numL M (decR n ++ r) 0 = numL M r n
  | 0, n, r, h, _ => by
    obtain rfl : n = 0 := by simpa using h
    rw [decR, dif_pos rfl]; rfl
  | m + 1, n, r, h, hM => by
    by_cases h0 : n = 0
    · subst h0; rw [decR, dif_pos rfl]; rfl
    · have hd := dd_val n
      rw [decR, dif_neg h0, List.append_assoc, num_decR M m (n / 10) _ (by rw [Nat.pow_succ] at h; omega) (by omega), List.singleton_append, numL, if_pos (by unfold isDig; omega), if_neg (by omega)]
      congr 1
      omega
theorem num_decL (M n : Nat) (h : n < 1000) (hM : n ≤ M) : numL M (decL n) 0 = some n := by
  have hd := dd_val n
  rw [decL, num_decR M 2 (n / 10) _ (by show n / 10 < 100; omega) (by omega), numL, if_pos (by unfold isDig; omega), if_neg (by omega), numL]
  congr 1
  omega
theorem decL_ne (n : Nat) : decL n ≠ [] := by rw [decL]; simp
/-! The entry. -/
def sixE (a : List Nat) (n : Nat) : List UInt8 := sixT (ints a) n
theorem sixE_le {a : List Nat} {n : Nat} (h : n ≤ 128) : sixE a n = txt a ++ 47 :: decL n := by
  unfold sixE sixT txt
  rw [if_pos h]
  simp
theorem sixE_gt {a : List Nat} {n : Nat} (h : ¬ n ≤ 128) : sixE a n = txt a := by
  unfold sixE sixT txt
  rw [if_neg h]
/-- What bytes an entry for an address of 128 bits has. -/
def EntB (x : UInt8) : Prop := TxtB x ∨ x.toNat = 47
theorem sixE_mem {a : List Nat} {n : Nat} (hb : ∀ x ∈ a, x ≤ 255) (hn : n ≤ 129) : ∀ x ∈ sixE a n, EntB x := by
  intro x hx
  by_cases h : n ≤ 128
  · rw [sixE_le h] at hx
    rcases List.mem_append.1 hx with hx | hx
    · exact Or.inl (txt_mem hb x hx)
    · rcases List.mem_cons.1 hx with rfl | hx
      · exact Or.inr rfl
      · have := decL_mem (by omega) x hx
        exact Or.inl (Or.inl (Or.inl this))
  · rw [sixE_gt h] at hx
    exact Or.inl (txt_mem hb x hx)
theorem sixE_len {a : List Nat} {n : Nat} (hb : ∀ x ∈ a, x ≤ 255) (hn : n ≤ 129) : (sixE a n).length ≤ 44 := by
  have h1 := txt_len hb
  by_cases h : n ≤ 128
  · have h2 := decL_len (n := n) (by omega)
    rw [sixE_le h]
    simp
    omega
  · rw [sixE_gt h]; omega
theorem sixE_ne (a : List Nat) (n : Nat) : sixE a n ≠ [] := by
  by_cases h : n ≤ 128
  · rw [sixE_le h]; simp
  · rw [sixE_gt h]; exact txt_ne a
theorem dropW_none (f : UInt8 → Bool) (l : List UInt8) (h : ∀ x ∈ l, f x = false) : l.dropWhile f = l := by
  cases l with
  | nil => rfl
  | cons x r => rw [List.dropWhile_cons, h x (by simp)]; rfl
theorem entB_sp {x : UInt8} (h : EntB x) : Lib.isSp x = false := by
  unfold EntB TxtB HexB at h
  rw [Bool.eq_false_iff]
  intro hs
  unfold Lib.isSp at hs
  simp only [Bool.or_eq_true, beq_iff_eq] at hs
  have : x.toNat = 9 ∨ x.toNat = 10 ∨ x.toNat = 11 ∨ x.toNat = 12 ∨ x.toNat = 13 ∨ x.toNat = 32 := by
    rcases hs with ((((rfl | rfl) | rfl) | rfl) | rfl) | rfl <;> decide
  omega
theorem entB_low {x : UInt8} (h : EntB x) : Lib.lowerB x = x := by
  unfold EntB TxtB HexB at h
  unfold Lib.lowerB Lib.isUpperB
  rw [if_neg]
  simp only [Bool.and_eq_true, decide_eq_true_eq, UInt8.le_iff_toNat_le]
  intro hh
  have h1 : 65 ≤ x.toNat := hh.1
  have h2 : x.toNat ≤ 90 := hh.2
  omega
theorem low_id (l : List UInt8) (h : ∀ x ∈ l, EntB x) : low l = l := by
  unfold low
  have e : Lib.trimSpace l = l := by
    unfold Lib.trimSpace
    rw [dropW_none _ l fun x hx => entB_sp (h x hx), dropW_none _ l.reverse fun x hx => entB_sp (h x (by simpa using hx)), List.reverse_reverse]
  rw [e]
  unfold Lib.toLowerA
  exact (List.map_congr_left (f := Lib.lowerB) (g := id) fun x hx => entB_low (h x hx)).trans (List.map_id l)
theorem entB_cnt {l : List UInt8} (h : ∀ x ∈ l, EntB x) (c : Nat) (h1 : c < 47 ∨ 58 < c) (h2 : c < 97 ∨ 102 < c) : cnt c l = 0 := by
  unfold cnt
  rw [List.countP_eq_zero]
  intro x hx
  have := h x hx
  unfold EntB TxtB HexB at this
  simp only [beq_iff_eq]
  omega
/-- What the entry comes to. -/
def clsSix (a : List Nat) (n : Nat) : Cls := if n ≤ 128 then .ip (.cidr 16 (mask16 a n) (maskUpTo n 16 16)) else .ip (.ip (b16 (ad6 a)) ⟨#[]⟩)
theorem ent_six (a : List Nat) (n : Nat) (p4 p6 : Addr) (hl : a.length = 16) (hb : ∀ x ∈ a, x ≤ 255) (hn : n ≤ 129) : Ent p4 p6 (bA (sixE a n)) (clsSix a n) := by
  have hPA := pa_six a p4 p6 hl hb
  obtain ⟨-, i1, i2, -, -⟩ := ad6_all a hl hb
  have hlen := txt_len hb
  have h0 : 0 < (bA (sixE a n)).size := by rw [bA_size]; exact len_pos (sixE_ne a n)
  have h2 := txt_colons a hl
  have hlong : 2 ≤ (txt a).length := Nat.le_trans h2 List.countP_le_length
  have hst : ((bA (sixE a n)).toList == [42]) = false := by
    rw [bA_toList, Bool.eq_false_iff]
    intro h
    rw [beq_iff_eq] at h
    have h3 := congrArg List.length h
    by_cases h8 : n ≤ 128
    · rw [sixE_le h8] at h3
      simp at h3
      omega
    · rw [sixE_gt h8] at h3
      simp at h3
      omega
  unfold clsSix
  by_cases h8 : n ≤ 128
  · rw [if_pos h8]
    have hdl := decL_len (n := n) (by omega)
    have hsz := sixE_len (a := a) hb hn
    have hc := nCut_f (bA (sixE a n)) 47 (by rw [bA_size]; omega) 1000 (by rw [bA_size]; omega)
    have hcut : cutL 47 (sixE a n) = some (txt a, decL n) := by
      rw [sixE_le h8]
      exact cutL_app 47 (txt a) (decL n) (txt_cnt hb 47 (by omega) (by omega))
    rw [bA_list, show (47 : UInt8).toNat = 47 from rfl, hcut] at hc
    have hd := dtoi_f (bA (decL n)) (by rw [bA_size]; omega) 1000 (by rw [bA_size]; omega)
    have hnum := dt_num 128 (by omega) (decL n) 0 0 (by omega)
    rw [num_decL 128 n (by omega) h8] at hnum
    rw [bA_list, hnum (fun _ => decL_ne n), Nat.zero_add] at hd
    refine Ent.cidr h0 hst 16 (by omega) _ _ fun w hE => ?_
    exact ParseCIDR_yes _ (bA (txt a)) (bA (decL n)) (ad6 a) n p4 p6 w hE 1000 hc i1 i2 hPA (by rw [bA_size]; exact hd) h8 (mask16 a n) (mask_f16 a n hl hb 970) rfl
  · rw [if_neg h8]
    rw [sixE_gt h8] at h0 hst ⊢
    have hc := nCut_f (bA (txt a)) 47 (by rw [bA_size]; omega) 1000 (by rw [bA_size]; omega)
    have hcn : cutL 47 (txt a) = none := by
      have := txt_cnt hb 47 (by omega) (by omega)
      unfold cutL
      rw [first_none 47 _ this]
      rfl
    rw [bA_list, show (47 : UInt8).toNat = 47 from rfl, hcn] at hc
    refine Ent.more h0 hst (fun w hE => ParseCIDR_nocut _ _ _ w 1000 hc) (bA (txt a)) ⟨#[]⟩ (Phost.err fun w => ?_) _ (Kind.ip _ fun w hE => ParseIP_yes (bA (txt a)) (ad6 a) p4 p6 w hE i1 i2 hPA)
    exact host_many (bA (txt a)) (by rw [bA_size]; omega) (by rw [bA_list]; exact h2) (by rw [bA_list]; exact txt_cnt hb 91 (by omega) (by omega)) w
/-! The rules. -/
theorem val_six (ys : List Nat) (port : ByteArray) (q : List UInt8) (hl : ys.length = 16) (hb : ∀ x ∈ ys, x ≤ 255) (hp : Plain ys) (f : Mt → Bool) (hall : f .all = true) (hc : ∀ xs ms, f (.cidr 4 xs ms) = false) (hi : ∀ l p, f (.ip l p) = ((l == ints ys) && (p.toList.isEmpty || p.toList == port.toList))) :
    (valI f (clsL q) || valD ruleX (clsL q)) = (q == [42]) := by
  unfold clsL
  by_cases h0 : q = []
  · subst h0; rfl
  · rw [if_neg h0]
    by_cases hst : q = [42]
    · subst hst; rfl
    · have hq : (q == [42]) = false := by simpa using hst
      rw [if_neg hst, hq]
      cases hn : netL q with
      | some nn => simp [valI, valD, hc]
      | none =>
        cases he : entL q with
        | none => rfl
        | some hp' =>
          obtain ⟨a, b⟩ := hp'
          simp only
          cases ha : addrL a with
          | none => rfl
          | some ns =>
            obtain ⟨n4, n5⟩ := addrL_some ha
            simp only [valI, valD, hi, Bool.or_false]
            have : (b16 (ad4 ns) == ints ys) = false := by
              rw [ad4_b16 ns n4 n5, Bool.eq_false_iff]
              intro h
              rw [beq_iff_eq] at h
              have h3 := plain_ten ys hl hb hp
              rw [← h] at h3
              cases h3
            rw [this]
            rfl
end Go.Proofs.YtpemdpfageikfaaGreatDoor.R
/- FnUseSix: what the program says of a list with an address of 128 bits at its end, and of such an address. -/
namespace Go.Proofs.YtpemdpfageikfaaGreatDoor.R
open Go.RowKit Go.Proofs.YtpemdpfageikfaaGreatDoorW.PrintWords Go.Proofs.YtpemdpfageikfaaGreatDoorW.PrintLast Go.Proofs.YtpemdpfageikfaaGreatDoorW.PrintMore

def ruleS (ys : List Int) (port : ByteArray) : Mt → Bool
  | .all => true
  | .cidr L xs ms => if L = 16 then sameMasked 16 xs ms ys else false
  | .ip l p => (l == ys) && (p.toList.isEmpty || p.toList == port.toList)
  | .dom _ _ _ => false
theorem equal16 (l m : List Nat) (hl : l.length = 16) (hb : ∀ x ∈ l, x ≤ 255) (hm : m.length = 16) (hb' : ∀ x ∈ m, x ≤ 255) : Q.netcidr_IP_Equal.f 3 (ints l) (ints m) = some (l == m) := by
  have e1 : (ints l).length = 16 := by simp [ints, hl]
  have e2 : (ints m).length = 16 := by simp [ints, hm]
  unfold Q.netcidr_IP_Equal.f
  rw [e1, e2, if_pos rfl, bytes_eq_f l m hb hb']
  rfl
theorem ints_beq (l m : List Nat) : (ints l == ints m) = (l == m) := by
  rw [Bool.eq_iff_iff, beq_iff_eq, beq_iff_eq]
  constructor
  · intro h
    have : ∀ (l m : List Nat), ints l = ints m → l = m := by
      intro l
      induction l with
      | nil => intro m h; cases m with | nil => rfl | cons _ _ => cases h
      | cons a l ih =>
        intro m h
        cases m with
        | nil => cases h
        | cons b m =>
          simp only [ints, List.map_cons, List.cons.injEq] at h
          rw [ih m h.2, show a = b from by omega]
    exact this l m h
  · intro h; rw [h]
theorem eqPre_full : ∀ (l m : List Nat), l.length = m.length → eqPre (8 * l.length) l m = (l == m)
  | [], [], _ => rfl
  | [], _ :: _, h => by simp at h
  | _ :: _, [], h => by simp at h
  | a :: l, b :: m, h => by
    have ih := eqPre_full l m (by simpa using h)
    rw [eqPre, List.length_cons, show 8 * (l.length + 1) - 8 = 8 * l.length from by omega, ih, show 8 - 8 * (l.length + 1) = 0 from by omega, List.cons_beq_cons]
    simp
def clsAll (no : List UInt8) (a : List Nat) (n : Nat) : List Cls := clsOf no ++ [clsSix a n]
theorem cls_hit (no : List UInt8) (a c : List Nat) (n : Nat) (port : ByteArray) (hn : n ≤ 129) (ha : a.length = 16) (ba : ∀ x ∈ a, x ≤ 255) (hc : c.length = 16) (bc : ∀ x ∈ c, x ≤ 255) (pa : Plain a) (pc : Plain c) :
    ∀ m ∈ (gath [] [] (clsAll no a n)).1, Hit (ints c) port m (ruleS (ints c) port m) := by
  have hy : (ints c).length = 16 := by simp [ints, hc]
  have h2 := plain_4in6 hc bc pc
  refine gath_P (fun m => Hit (ints c) port m (ruleS (ints c) port m)) .all _ [] [] (by simp) (fun m hm => ?_)
  rcases List.mem_append.1 hm with hm | hm
  · unfold clsOf at hm
    obtain ⟨e, _, he⟩ := List.mem_map.1 hm
    rcases clsL_ip he with ⟨xs, k, ⟨x4, x5⟩, hk, rfl⟩ | ⟨xs, b, ⟨x4, x5⟩, rfl⟩
    · exact Hit.c46 _ _ hy h2
    · rw [ad4_b16 xs x4 x5]
      have hl : ([0, 0, 0, 0, 0, 0, 0, 0, 0, 0, 255, 255] ++ xs : List Nat).length = 16 := by simp [x4]
      have hb : ∀ x ∈ ([0, 0, 0, 0, 0, 0, 0, 0, 0, 0, 255, 255] ++ xs : List Nat), x ≤ 255 := by
        intro x hx
        rcases List.mem_append.1 hx with hx | hx
        · simp at hx; omega
        · exact x5 x hx
      refine Hit.ip _ _ _ (by simp [ints, x4]) ?_
      rw [equal16 _ _ hl hb hc bc, ints_beq]
  · have hm' : Cls.ip m = clsSix a n := by simpa using hm
    unfold clsSix at hm'
    by_cases h8 : n ≤ 128
    · rw [if_pos h8] at hm'
      cases hm'
      exact Hit.c66 _ _ hy (mask_4in6 n ha ba pa) h2
    · rw [if_neg h8] at hm'
      cases hm'
      rw [(ad6_all a ha ba).1]
      refine Hit.ip _ _ _ (by simp [ints, ha]) ?_
      rw [equal16 _ _ ha ba hc bc, ints_beq]
theorem cls_hitX (no : List UInt8) (a : List Nat) (n : Nat) : ∀ m ∈ (gath [] [] (clsAll no a n)).2, HitX m (ruleX m) := by
  refine gath_Q (fun m => HitX m (ruleX m)) .all _ [] [] (by simp) (fun m hm => ?_)
  rcases List.mem_append.1 hm with hm | hm
  · unfold clsOf at hm
    obtain ⟨e, _, he⟩ := List.mem_map.1 hm
    obtain ⟨x, b, hne, rfl⟩ := clsL_dom he
    exact HitX.dom _ _ _
  · have hm' : Cls.dom m = clsSix a n := by simpa using hm
    unfold clsSix at hm'
    split at hm' <;> cases hm'
def starL (no : List UInt8) : Bool := (splitOn 44 no).any fun e => Lib.trimSpace e == [42]
theorem low_star (e : List UInt8) : (low e == [42]) = (Lib.trimSpace e == [42]) := by
  rw [Bool.eq_iff_iff, beq_iff_eq, beq_iff_eq]
  unfold low Lib.toLowerA
  constructor
  · intro h
    cases ht : Lib.trimSpace e with
    | nil => rw [ht] at h; cases h
    | cons x r =>
      rw [ht, List.map_cons] at h
      simp only [List.cons.injEq, List.map_eq_nil_iff] at h
      obtain ⟨h1, rfl⟩ := h
      have h2 := low_byte 42 (by decide) (by decide) x
      rw [h1] at h2
      have h3 : x.toNat = (42 : UInt8).toNat := by simpa using h2.symm
      rw [UInt8.toNat_inj.1 h3]
  · intro h; rw [h]; rfl
/-- What the program says. -/
def sixSays (no : List UInt8) (a c : List Nat) (n : Nat) : Bool := !(starL no || eqPre (min n 128) a c)
theorem six_any (no : List UInt8) (a c : List Nat) (n : Nat) (port : ByteArray) (hn : n ≤ 129) (ha : a.length = 16) (ba : ∀ x ∈ a, x ≤ 255) (hc : c.length = 16) (bc : ∀ x ∈ c, x ≤ 255) (pc : Plain c) :
    (!((gath [] [] (clsAll no a n)).1.any (ruleS (ints c) port)) && !((gath [] [] (clsAll no a n)).2.any ruleX)) = sixSays no a c n := by
  rw [gath_I _ rfl, gath_D _ rfl, List.any_nil, List.any_nil, Bool.false_or, Bool.false_or, ← Bool.not_or, cls_or]
  unfold clsAll sixSays starL
  rw [List.any_append, cls_any no _ _ (fun q => val_six c port q hc bc pc (ruleS (ints c) port) rfl (fun _ _ => rfl) (fun _ _ => rfl))]
  congr 2
  · congr 1
    funext e
    exact low_star e
  · unfold clsSix
    by_cases h8 : n ≤ 128
    · rw [if_pos h8, Nat.min_eq_left h8, ← hit_net16 a c n ha ba hc bc]
      simp [valI, valD, ruleS]
    · rw [if_neg h8, Nat.min_eq_right (by omega)]
      have := eqPre_full a c (by omega)
      rw [ha] at this
      rw [show (128 : Nat) = 8 * 16 from rfl, this, ← ints_beq, ← (ad6_all a ha ba).1]
      simp only [valI, valD, ruleS, List.any_cons, List.any_nil, Bool.or_false]
      have : ((⟨#[]⟩ : ByteArray).toList.isEmpty) = true := by rw [ByteArray.toList_eq]; rfl
      rw [this]
      simp
theorem splitOn_app (c : UInt8) : ∀ (p r : List UInt8), splitOn c.toNat (p ++ c :: r) = splitOn c.toNat p ++ splitOn c.toNat r
  | [], r => by rw [List.nil_append, splitOn_hit rfl]; rfl
  | x :: p, r => by
    have ih := splitOn_app c p r
    by_cases hx : x.toNat = c.toNat
    · rw [List.cons_append, splitOn_hit hx, splitOn_hit hx, ih]; rfl
    · obtain ⟨h, t, e⟩ := splitOn_ne c.toNat p
      rw [e] at ih
      rw [List.cons_append, splitOn_cons hx ih, splitOn_cons hx e]
      rfl
/-- The list: another one, and the entry. -/
def sixList (no : ByteArray) (a : List Nat) (n : Nat) : ByteArray := no ++ (⟨#[44]⟩ : ByteArray) ++ bA (sixE a n)
theorem sixList_split (no : ByteArray) (a : List Nat) (n : Nat) (hb : ∀ x ∈ a, x ≤ 255) (hn : n ≤ 129) : splitOn 44 (sixList no a n).data.toList = splitOn 44 no.data.toList ++ [sixE a n] := by
  have e : (sixList no a n).data.toList = no.data.toList ++ 44 :: sixE a n := by
    unfold sixList
    simp [bA_list]
  have h := splitOn_app 44 no.data.toList (sixE a n)
  rw [show (44 : UInt8).toNat = 44 from rfl] at h
  have h2 : splitOn 44 (sixE a n) = [sixE a n] := by
    rw [splitOn_first, first_none 44 _ (entB_cnt (sixE_mem hb hn) 44 (by omega) (by omega))]
  rw [e, h, h2]
theorem init_six (no : ByteArray) (hS : Said no) (a : List Nat) (n : Nat) (ha : a.length = 16) (ba : ∀ x ∈ a, x ≤ 255) (hn : n ≤ 129) (p4 p6 : Addr) (B cb : Nat) (w : World) (hE : EnvB w B p4 p6) (hB : B ≤ cb) (hcb : CbAt w cb (sixList no a n) (.slice none 0 0) (.slice none 0 0)) :
    Calls Tryz.prog 34 #[.pointer (some ⟨cb, 0, none⟩)] w (InitPost B cb (sixList no a n) (gath [] [] (clsAll no.data.toList a n)).1 (gath [] [] (clsAll no.data.toList a n)).2 w) := by
  have hsz := hS.size
  have hel := sixE_len (a := a) ba hn
  have hls : (sixList no a n).size = no.size + 1 + (sixE a n).length := by
    unfold sixList
    rw [ByteArray.size_append, ByteArray.size_append, bA_size]
    rfl
  have hsp := hSplit_f (sixList no a n) 44 (by omega) (2 * (sixList no a n).size + 3) (by omega)
  rw [show (44 : UInt8).toNat = 44 from rfl, sixList_split no a n ba hn, List.map_append] at hsp
  have hsl := splitOn_len 44 no.data.toList
  rw [len_list] at hsl
  refine init_calls cb B (sixList no a n) p4 p6 w hE hB hcb _ _ hsp (by simp) (by simp; omega) (clsAll no.data.toList a n) ?_
  refine All2.snoc (All2.maps bA (fun e => clsL (low e)) (ent_list no hS p4 p6)) ⟨by rw [bA_size]; omega, asc_bA fun x hx => ?_, ?_⟩
  · have := sixE_mem ba hn x hx
    unfold EntB TxtB HexB at this
    omega
  · rw [norm_low, bA_list, low_id _ (sixE_mem ba hn)]
    exact ent_six a n p4 p6 ha ba hn
theorem txt_asc {a : List Nat} (ba : ∀ x ∈ a, x ≤ 255) : Asc (bA (txt a)) := asc_bA fun x hx => by
  have := txt_mem ba x hx
  unfold TxtB HexB at this
  omega
theorem use_12six (no port : ByteArray) (hS : Said no) (a c : List Nat) (n : Nat) (hn : n ≤ 129) (ha : a.length = 16) (ba : ∀ x ∈ a, x ≤ 255) (hc : c.length = 16) (bc : ∀ x ∈ c, x ≤ 255) (pa : Plain a) (pc : Plain c)
    (hp : port.size ≤ 1000) (h58 : cnt 58 port.data.toList = 0) (h91 : cnt 91 port.data.toList = 0) (h93 : cnt 93 port.data.toList = 0) (p4 p6 : Addr) (w : World) (hE : EnvB w w.heap.size p4 p6) :
    Calls Tryz.prog 12 #[.string (sixList no a n), .string (sixA (ints c) port)] w (Says (sixSays no.data.toList a c n) w) := by
  have hsz := hS.size
  have hlen := txt_len bc
  refine use12 _ _ _ w (zzUse _ _ _ _ _ p4 p6 w hE (fun wx cb hx hB hcb => init_six no hS a n ha ba hn p4 p6 _ cb wx hx hB hcb) fun wx cb vI vD base hx hst => ?_)
  obtain ⟨f0, i1, i2, -, -⟩ := ad6_all c hc bc
  have hys : ysOf (ad6 c) = ints c := f0
  have hgl := gath_len (clsAll no.data.toList a n) [] []
  have hcl : (clsAll no.data.toList a n).length ≤ 302 := by
    have := clsOf_len no hsz
    unfold clsAll
    simp
    omega
  rw [List.length_nil] at hgl
  have hloc : ((bA (txt c)).toList == [108, 111, 99, 97, 108, 104, 111, 115, 116]) = false := by
    rw [loc_eq, decide_eq_false_iff_not]
    intro h
    have h1 := txt_colons c hc
    rw [h] at h1
    have : cnt 58 locL = 0 := by decide
    omega
  have h0 : 0 < (sixA (ints c) port).size := by
    unfold sixA
    rw [ByteArray.size_append, ByteArray.size_append, ByteArray.size_append]
    have : (⟨#[91]⟩ : ByteArray).size = 1 := rfl
    omega
  have := use_ip cb base (sixA (ints c) port) (sixList no a n) (bA (txt c)) port vI vD _ _ (ad6 c) p4 p6 wx hx hst h0 (host_six c port bc hp h58 h91 h93) hloc i1 i2 (pa_six c p4 p6 hc bc) (fun _ => by
      rw [f0]
      exact ⟨plain_4in6 hc bc pc, int_byt bc⟩) (plain_lb hc bc pc) (by rw [bA_size]; omega) (txt_asc bc) _ _ (All2.of_map (ruleS (ysOf (ad6 c)) port) (by rw [hys]; exact cls_hit no.data.toList a c n port hn ha ba hc bc pa pc)) (All2.of_map ruleX (cls_hitX no.data.toList a n)) (by omega) (by omega)
  rw [hits_any, hits_any, hys, six_any no.data.toList a c n port hn ha ba hc bc pc] at this
  exact this
/-! hasStar. -/
theorem star_l (S : Nat) (es : List (List UInt8)) (hS : S ≤ 140737488351232) (hes : ∀ e ∈ es, e.length ≤ S) (hn : es.length ≤ 140737488351232) (d : Nat) : ∀ (k i : Nat), i ≤ es.length → es.length - i = d → d + 2 * S + 3 < k →
    Q.laws_hasStar.l0 k (es.map bA) es.length i = some ((es.drop i).any fun e => Lib.trimSpace e == [42]) := by
  induction d with
  | zero =>
    intro k i hi hd hk
    obtain ⟨k, rfl⟩ : ∃ m, k = m + 1 := ⟨k - 1, by omega⟩
    have hdn : es.drop i = [] := List.drop_of_length_le (by omega)
    rw [Q.laws_hasStar.l0, if_neg (by omega), hdn]
    rfl
  | succ d ih =>
    intro k i hi hd hk
    obtain ⟨k, rfl⟩ : ∃ m, k = m + 1 := ⟨k - 1, by omega⟩
    have hil : i < es.length := by omega
    have hle := hes es[i] (List.getElem_mem hil)
    have ht := trim_f (bA es[i]) (by rw [bA_size]; omega) k (by rw [bA_size]; omega)
    rw [bA_list] at ht
    rw [Q.laws_hasStar.l0, if_pos (by omega), if_pos (by omega), if_pos (by simp; omega), rdOf_bA es i hil, ht, wr1 hil hn, List.drop_eq_getElem_cons hil, List.any_cons]
    simp only [Option.bind_some]
    rw [bA_toList]
    by_cases hc : Lib.trimSpace es[i] = [42]
    · rw [if_pos hc, hc]; rfl
    · rw [if_neg hc, ih k (i + 1) (by omega) (by omega) (by omega)]
      have : (Lib.trimSpace es[i] == [42]) = false := by simpa using hc
      rw [this, Bool.false_or]
theorem star_f (no : ByteArray) (hs : no.size < 8796093022200) (k : Nat) (hk : 3 * no.size + 5 < k) : Q.laws_hasStar.f k no = some (starL no.data.toList) := by
  unfold Q.laws_hasStar.f
  have h1 := split_f no 44 (by omega) k (by omega)
  rw [show ((44 : Nat) : Int) = 44 from rfl] at h1
  rw [h1]
  simp only [Option.bind_some]
  have hl := splitOn_len 44 no.data.toList
  rw [len_list] at hl
  have := star_l no.size (splitOn 44 no.data.toList) (by omega) (fun e he => by have := (splitOn_mem he).length_le; rw [len_list] at this; exact this) (by omega) (splitOn 44 no.data.toList).length k 0 (by omega) (by omega) (by omega)
  rw [List.length_map]
  rw [show ((0 : Nat) : Int) = 0 from rfl, List.drop_zero] at this
  exact this
end Go.Proofs.YtpemdpfageikfaaGreatDoor.R
