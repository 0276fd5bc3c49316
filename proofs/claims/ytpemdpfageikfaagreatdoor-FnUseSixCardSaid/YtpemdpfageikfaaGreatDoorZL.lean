/- Plain laws of the reference's small functions. -/
import Derived.Test.YtpemdpfageikfaaGreatDoorZQa
import Derived.Test.YtpemdpfageikfaaGreatDoorZQf
import Derived.Lib.Space
import Derived.Test.YtpemdpfageikfaaGreatDoorZA
set_option linter.unusedVariables false
set_option linter.unusedSimpArgs false
/- Plain laws: texts as lists; how a text is cut at a byte, by the set's reference and by the package. -/
namespace Go.Proofs.YtpemdpfageikfaaGreatDoor.R
open Go.RowKit Go.Proofs.YtpemdpfageikfaaGreatDoorW.PrintWords Go.Proofs.YtpemdpfageikfaaGreatDoorW.PrintLast Go.Proofs.YtpemdpfageikfaaGreatDoorW.PrintMore

def bA (l : List UInt8) : ByteArray := ⟨l.toArray⟩
theorem bA_list (l : List UInt8) : (bA l).data.toList = l := by simp [bA]
theorem bA_size (l : List UInt8) : (bA l).size = l.length := by simp [bA, ByteArray.size]
theorem bA_of (s : ByteArray) : bA s.data.toList = s := by apply ByteArray.ext; simp [bA]
theorem bA_ext {s t : ByteArray} (h : s.data.toList = t.data.toList) : s = t := by rw [← bA_of s, ← bA_of t, h]
theorem extract_bA (s : ByteArray) (a b : Nat) : s.extract a b = bA ((s.data.toList.drop a).take (b - a)) := by
  apply bA_ext
  rw [bA_list]
  have e : (s.extract a b).data = s.data.extract a b := by simp
  rw [e, Array.toList_extract]
theorem sz (s : ByteArray) : s.size = s.data.toList.length := rfl
theorem bt_list (s : ByteArray) (i : Int) (h : i.toNat < s.size) : bt s i = ((s.data.toList[i.toNat]'(by simpa using h)).toNat : Int) := by
  rw [← bt_at s i h]
  rfl
/-- A text, cut at a byte. -/
def splitOn (c : Nat) : List UInt8 → List (List UInt8)
  | [] => [[]]
  | x :: r => if x.toNat = c then [] :: splitOn c r else match splitOn c r with
    | [] => [[x]]
    | h :: t => (x :: h) :: t
def glue (p : List UInt8) : List (List UInt8) → List (List UInt8)
  | [] => [p]
  | h :: t => (p ++ h) :: t
theorem splitOn_ne (c : Nat) (l : List UInt8) : ∃ h t, splitOn c l = h :: t := by
  cases l with
  | nil => exact ⟨_, _, rfl⟩
  | cons x r =>
    rw [splitOn]
    split
    · exact ⟨_, _, rfl⟩
    · split <;> exact ⟨_, _, rfl⟩
theorem glue_cons (c : Nat) (p : List UInt8) (x : UInt8) (r : List UInt8) (h : x.toNat ≠ c) : glue p (splitOn c (x :: r)) = glue (p ++ [x]) (splitOn c r) := by
  obtain ⟨a, t, e⟩ := splitOn_ne c r
  rw [splitOn, if_neg h, e]
  simp [glue]
theorem glue_nil (c : Nat) (l : List UInt8) : glue [] (splitOn c l) = splitOn c l := by
  obtain ⟨a, t, e⟩ := splitOn_ne c l
  rw [e]; rfl
theorem splitOn_len (c : Nat) (l : List UInt8) : (splitOn c l).length ≤ l.length + 1 := by
  induction l with
  | nil => simp [splitOn]
  | cons x r ih =>
    rw [splitOn]
    split
    · simp; omega
    · split
      · simp
      · rename_i h; rw [h] at ih; simp at ih ⊢; omega
theorem take_snoc (l : List UInt8) (a i : Nat) (ha : a ≤ i) (hi : i < l.length) : (l.drop a).take (i + 1 - a) = (l.drop a).take (i - a) ++ [l[i]] := by
  rw [show i + 1 - a = (i - a) + 1 from by omega, List.take_add_one]
  congr 1
  rw [List.getElem?_drop, show a + (i - a) = i from by omega, List.getElem?_eq_getElem hi]
  rfl

theorem split_l (s : ByteArray) (c : Nat) (hs : s.size ≤ 140737488351232) (d : Nat) : ∀ (k : Nat) (acc : List ByteArray) (f i : Nat), f ≤ i → i ≤ s.size → s.size - i = d → d < k → acc.length + d < 8796093022208 →
    Q.spec_Split.l0 k s c acc f s.size i = some (acc ++ (glue ((s.data.toList.drop f).take (i - f)) (splitOn c (s.data.toList.drop i))).map bA) := by
  induction d with
  | zero =>
    intro k acc f i hf hi hd hk ha
    obtain ⟨k, rfl⟩ : ∃ m, k = m + 1 := ⟨k - 1, by omega⟩
    have hie : i = s.size := by omega
    rw [Q.spec_Split.l0, if_neg (by omega), if_pos (by omega), if_pos (by omega), if_pos (by omega)]
    have hdn : s.data.toList.drop i = [] := List.drop_of_length_le (by rw [← sz]; omega)
    rw [hdn]
    simp only [splitOn, glue, List.append_nil, List.map_cons, List.map_nil, Int.toNat_natCast]
    rw [extract_bA, hie]
  | succ d ih =>
    intro k acc f i hf hi hd hk ha
    obtain ⟨k, rfl⟩ : ∃ m, k = m + 1 := ⟨k - 1, by omega⟩
    have hil : i < s.size := by omega
    have hll : i < s.data.toList.length := by rw [← sz]; exact hil
    have hw : wrap64 ((i : Int) + 1) = ((i + 1 : Nat) : Int) := by unfold wrap64; omega
    have hdr : s.data.toList.drop i = s.data.toList[i] :: s.data.toList.drop (i + 1) := List.drop_eq_getElem_cons hll
    have hbt : bt s (i : Int) = ((s.data.toList[i]'hll).toNat : Int) := bt_list s i hil
    rw [Q.spec_Split.l0, if_pos (by omega), if_pos (by omega), if_pos (by omega), hbt, hw]
    by_cases hc : (s.data.toList[i]).toNat = c
    · rw [if_pos (by omega), if_pos (by omega), if_pos (by omega), if_pos (by omega), if_pos (by omega)]
      rw [ih k _ (i + 1) (i + 1) (Nat.le_refl _) (by omega) (by omega) (by omega) (by simp; omega)]
      rw [hdr, splitOn, if_pos hc]
      simp only [Nat.sub_self, List.take_zero, glue_nil]
      rw [show ∀ P T, glue P ([] :: T) = (P ++ []) :: T from fun _ _ => rfl]
      simp only [List.append_nil, List.map_cons, List.append_assoc, List.singleton_append, Int.toNat_natCast]
      rw [extract_bA]
    · rw [if_neg (by omega)]
      rw [ih k acc f (i + 1) (by omega) (by omega) (by omega) (by omega) (by omega)]
      rw [hdr, glue_cons _ _ _ _ hc, take_snoc _ _ _ hf hll]
theorem split_f (s : ByteArray) (c : Nat) (hs : s.size < 8796093022208) (k : Nat) (hk : s.size < k) : Q.spec_Split.f k s c = some ((splitOn c s.data.toList).map bA) := by
  unfold Q.spec_Split.f
  have := split_l s c (by omega) s.size k [] 0 0 (Nat.le_refl _) (by omega) (by omega) hk (by simpa using hs)
  simp only [List.drop_zero, Nat.sub_self, List.take_zero, glue_nil, List.nil_append] at this
  exact this
end Go.Proofs.YtpemdpfageikfaaGreatDoor.R
/- Plain laws: the first place of a byte; how the package cuts a list. -/
namespace Go.Proofs.YtpemdpfageikfaaGreatDoor.R
open Go.RowKit Go.Proofs.YtpemdpfageikfaaGreatDoorW.PrintWords Go.Proofs.YtpemdpfageikfaaGreatDoorW.PrintLast Go.Proofs.YtpemdpfageikfaaGreatDoorW.PrintMore

/-- The first place of a byte. -/
def first (c : Nat) : List UInt8 → Option Nat
  | [] => none
  | x :: r => if x.toNat = c then some 0 else (first c r).map (· + 1)
/-- What stands ahead of it and behind it. -/
def cutL (c : Nat) (l : List UInt8) : Option (List UInt8 × List UInt8) := (first c l).map fun i => (l.take i, l.drop (i + 1))
theorem first_lt {c : Nat} : ∀ {l : List UInt8} {i : Nat}, first c l = some i → i < l.length
  | [], i, h => by cases h
  | x :: r, i, h => by
    rw [first] at h
    split at h
    · cases h; simp
    · cases e : first c r with
      | none => rw [e] at h; cases h
      | some j => rw [e] at h; cases h; have := first_lt e; simp; omega
theorem splitOn_first (c : Nat) : ∀ l : List UInt8, splitOn c l = match first c l with
    | none => [l]
    | some i => l.take i :: splitOn c (l.drop (i + 1))
  | [] => rfl
  | x :: r => by
    rw [splitOn, first]
    by_cases h : x.toNat = c
    · rw [if_pos h, if_pos h]; rfl
    · rw [if_neg h, if_neg h, splitOn_first c r]
      cases first c r <;> rfl
theorem one_text (s : ByteArray) (i : Nat) (hi : i < s.size) (c : UInt8) : ((s.extract i (i + 1)).toList = (⟨#[c]⟩ : ByteArray).toList) ↔ (s.data.toList[i]'hi) = c := by
  rw [ByteArray.toList_eq, ByteArray.toList_eq, extract_bA, bA_list]
  have e : (s.data.toList.drop i).take (i + 1 - i) = [s.data.toList[i]'hi] := by
    rw [show i + 1 - i = 1 from by omega, List.drop_eq_getElem_cons hi]
    rfl
  rw [e]
  simp
theorem hIndex_l (s : ByteArray) (c : UInt8) (hs : s.size ≤ 140737488351232) (d : Nat) : ∀ (k i : Nat), i ≤ s.size → s.size - i = d → d < k →
    Q.httpproxy_zzIndex.l0 k s ⟨#[c]⟩ i = some (match first c.toNat (s.data.toList.drop i) with | none => -1 | some j => ((i + j : Nat) : Int)) := by
  induction d with
  | zero =>
    intro k i hi hd hk
    obtain ⟨k, rfl⟩ : ∃ m, k = m + 1 := ⟨k - 1, by omega⟩
    have h1 : ((⟨#[c]⟩ : ByteArray).size : Int) = 1 := rfl
    have hdn : s.data.toList.drop i = [] := List.drop_of_length_le (by rw [← sz]; omega)
    rw [Q.httpproxy_zzIndex.l0, h1, show wrap64 ((i : Int) + 1) = ((i + 1 : Nat) : Int) from by unfold wrap64; omega, if_neg (by omega), hdn]
    rfl
  | succ d ih =>
    intro k i hi hd hk
    obtain ⟨k, rfl⟩ : ∃ m, k = m + 1 := ⟨k - 1, by omega⟩
    have h1 : ((⟨#[c]⟩ : ByteArray).size : Int) = 1 := rfl
    have hil : i < s.size := by omega
    have hdr : s.data.toList.drop i = s.data.toList[i]'hil :: s.data.toList.drop (i + 1) := List.drop_eq_getElem_cons hil
    rw [Q.httpproxy_zzIndex.l0, h1, show wrap64 ((i : Int) + 1) = ((i + 1 : Nat) : Int) from by unfold wrap64; omega, if_pos (by omega), if_pos (by omega), if_pos (by omega), Int.toNat_natCast, Int.toNat_natCast]
    rw [hdr, first]
    by_cases hc : (s.data.toList[i]'hil) = c
    · rw [if_pos ((one_text s i hil c).2 hc), if_pos (by rw [hc])]
      rfl
    · rw [if_neg (fun h => hc ((one_text s i hil c).1 h)), if_neg (fun h => hc (UInt8.toNat_inj.1 h)), ih k (i + 1) (by omega) (by omega) (by omega)]
      cases first c.toNat (s.data.toList.drop (i + 1)) with
      | none => rfl
      | some j => exact congrArg some (show ((i + 1 + j : Nat) : Int) = ((i + (j + 1) : Nat) : Int) from by omega)
theorem nIndex_l (s : ByteArray) (c : UInt8) (hs : s.size ≤ 140737488351232) (d : Nat) : ∀ (k i : Nat), i ≤ s.size → s.size - i = d → d < k →
    Q.netcidr_zzIndex.l0 k s ⟨#[c]⟩ i = some (match first c.toNat (s.data.toList.drop i) with | none => -1 | some j => ((i + j : Nat) : Int)) := by
  induction d with
  | zero =>
    intro k i hi hd hk
    obtain ⟨k, rfl⟩ : ∃ m, k = m + 1 := ⟨k - 1, by omega⟩
    have h1 : ((⟨#[c]⟩ : ByteArray).size : Int) = 1 := rfl
    have hdn : s.data.toList.drop i = [] := List.drop_of_length_le (by rw [← sz]; omega)
    rw [Q.netcidr_zzIndex.l0, h1, show wrap64 ((i : Int) + 1) = ((i + 1 : Nat) : Int) from by unfold wrap64; omega, if_neg (by omega), hdn]
    rfl
  | succ d ih =>
    intro k i hi hd hk
    obtain ⟨k, rfl⟩ : ∃ m, k = m + 1 := ⟨k - 1, by omega⟩
    have h1 : ((⟨#[c]⟩ : ByteArray).size : Int) = 1 := rfl
    have hil : i < s.size := by omega
    have hdr : s.data.toList.drop i = s.data.toList[i]'hil :: s.data.toList.drop (i + 1) := List.drop_eq_getElem_cons hil
    rw [Q.netcidr_zzIndex.l0, h1, show wrap64 ((i : Int) + 1) = ((i + 1 : Nat) : Int) from by unfold wrap64; omega, if_pos (by omega), if_pos (by omega), if_pos (by omega), Int.toNat_natCast, Int.toNat_natCast]
    rw [hdr, first]
    by_cases hc : (s.data.toList[i]'hil) = c
    · rw [if_pos ((one_text s i hil c).2 hc), if_pos (by rw [hc])]
      rfl
    · rw [if_neg (fun h => hc ((one_text s i hil c).1 h)), if_neg (fun h => hc (UInt8.toNat_inj.1 h)), ih k (i + 1) (by omega) (by omega) (by omega)]
      cases first c.toNat (s.data.toList.drop (i + 1)) with
      | none => rfl
      | some j => exact congrArg some (show ((i + 1 + j : Nat) : Int) = ((i + (j + 1) : Nat) : Int) from by omega)
theorem nCut_f (s : ByteArray) (c : UInt8) (hs : s.size ≤ 140737488351232) (k : Nat) (hk : s.size < k) :
    Q.netcidr_zzCut.f k s ⟨#[c]⟩ = some (match cutL c.toNat s.data.toList with | none => (s, ⟨#[]⟩, false) | some (a, b) => (bA a, bA b, true)) := by
  unfold Q.netcidr_zzCut.f Q.netcidr_zzIndex.f
  have := nIndex_l s c hs s.size k 0 (by omega) (by omega) hk
  rw [show ((0 : Nat) : Int) = 0 from rfl, List.drop_zero] at this
  rw [this, cutL]
  simp only [Option.bind_some]
  cases e : first c.toNat s.data.toList with
  | none => rfl
  | some j =>
    have hj : j < s.size := first_lt e
    have h1 : ((⟨#[c]⟩ : ByteArray).size : Int) = 1 := rfl
    simp only [Nat.zero_add, Option.map_some]
    rw [if_pos (by omega), if_pos (by omega), if_pos (by omega), h1, show wrap64 ((j : Int) + 1) = ((j + 1 : Nat) : Int) from by unfold wrap64; omega, if_pos (by omega), if_pos (by omega), Int.toNat_natCast, Int.toNat_natCast]
    rw [extract_bA, extract_bA]
    simp only [List.drop_zero, Nat.sub_zero]
    rw [List.take_of_length_le (l := s.data.toList.drop (j + 1)) (by simp)]
theorem hSplit_l (c : UInt8) (n : Nat) : ∀ (d k : Nat) (s : ByteArray) (acc : List ByteArray), s.size ≤ d → s.size ≤ 140737488351232 → d + n + 2 < k → s.size ≤ n → acc.length + d + 1 < 8796093022208 →
    Q.httpproxy_zzSplit.l0 k s ⟨#[c]⟩ acc = some (acc ++ (splitOn c.toNat s.data.toList).map bA)
  | d, k, s, acc, hd, hs, hk, hn, ha => by
    obtain ⟨k, rfl⟩ : ∃ m, k = m + 1 := ⟨k - 1, by omega⟩
    have hi := hIndex_l s c hs s.size k 0 (by omega) (by omega) (by omega)
    rw [show ((0 : Nat) : Int) = 0 from rfl, List.drop_zero] at hi
    rw [Q.httpproxy_zzSplit.l0, Q.httpproxy_zzIndex.f, hi, splitOn_first]
    simp only [Option.bind_some]
    cases e : first c.toNat s.data.toList with
    | none =>
      simp only []
      rw [if_pos (by omega), if_pos (by omega)]
      simp [bA_of]
    | some j =>
      have hj : j < s.size := first_lt e
      have h1 : ((⟨#[c]⟩ : ByteArray).size : Int) = 1 := rfl
      obtain ⟨d, rfl⟩ : ∃ m, d = m + 1 := ⟨d - 1, by omega⟩
      have hex : (s.extract (j + 1) s.size).size = s.size - (j + 1) := by rw [extract_bA, bA_size]; simp
      simp only [Nat.zero_add]
      rw [if_neg (by omega), if_pos (by omega), if_pos (by omega), if_pos (by omega), h1, show wrap64 ((j : Int) + 1) = ((j + 1 : Nat) : Int) from by unfold wrap64; omega, if_pos (by omega), if_pos (by omega), Int.toNat_natCast, Int.toNat_natCast]
      rw [hSplit_l c n d k (s.extract (j + 1) s.size) _ (by omega) (by omega) (by omega) (by omega) (by simp; omega)]
      have h2 : (s.extract (j + 1) s.size).data.toList = s.data.toList.drop (j + 1) := by
        rw [extract_bA, bA_list, List.take_of_length_le (by simp)]
      rw [h2, extract_bA s 0 j]
      simp
theorem hSplit_f (s : ByteArray) (c : UInt8) (hs : s.size < 8796093022200) (k : Nat) (hk : 2 * s.size + 2 < k) : Q.httpproxy_zzSplit.f k s ⟨#[c]⟩ = some ((splitOn c.toNat s.data.toList).map bA) := by
  unfold Q.httpproxy_zzSplit.f
  rw [hSplit_l c s.size s.size k s [] (Nat.le_refl _) (by omega) (by omega) (Nat.le_refl _) (by simp; omega)]
  rfl
end Go.Proofs.YtpemdpfageikfaaGreatDoor.R
/- Plain laws: Cut, Count, IsASCII of the set's reference. -/
namespace Go.Proofs.YtpemdpfageikfaaGreatDoor.R
open Go.RowKit Go.Proofs.YtpemdpfageikfaaGreatDoorW.PrintWords Go.Proofs.YtpemdpfageikfaaGreatDoorW.PrintLast Go.Proofs.YtpemdpfageikfaaGreatDoorW.PrintMore

theorem wr1 {i n : Nat} (h : i < n) (hn : n ≤ 140737488351232) : wrap64 ((i : Int) + 1) = ((i + 1 : Nat) : Int) := by unfold wrap64; omega
theorem cut_l (s : ByteArray) (c : Nat) (hs : s.size ≤ 140737488351232) (d : Nat) : ∀ (k i : Nat), i ≤ s.size → s.size - i = d → d < k →
    Q.spec_Cut.l0 k s c s.size i = some (match first c (s.data.toList.drop i) with | none => (s, ⟨#[]⟩, false) | some j => (bA (s.data.toList.take (i + j)), bA (s.data.toList.drop (i + j + 1)), true)) := by
  induction d with
  | zero =>
    intro k i hi hd hk
    obtain ⟨k, rfl⟩ : ∃ m, k = m + 1 := ⟨k - 1, by omega⟩
    have hdn : s.data.toList.drop i = [] := List.drop_of_length_le (by rw [← sz]; omega)
    rw [Q.spec_Cut.l0, if_neg (by omega), hdn]
    rfl
  | succ d ih =>
    intro k i hi hd hk
    obtain ⟨k, rfl⟩ : ∃ m, k = m + 1 := ⟨k - 1, by omega⟩
    have hil : i < s.size := by omega
    have hdr : s.data.toList.drop i = s.data.toList[i]'hil :: s.data.toList.drop (i + 1) := List.drop_eq_getElem_cons hil
    have hbt : bt s (i : Int) = ((s.data.toList[i]'hil).toNat : Int) := bt_list s i hil
    rw [Q.spec_Cut.l0, if_pos (by omega), if_pos (by omega), if_pos (by omega), hbt, wr1 hil hs, hdr, first]
    by_cases hc : (s.data.toList[i]'hil).toNat = c
    · rw [if_pos (by omega), if_pos (by omega), if_pos (by omega), if_pos (by omega), if_pos hc, Int.toNat_natCast, Int.toNat_natCast, extract_bA, extract_bA]
      simp only [List.drop_zero, Nat.sub_zero, Nat.add_zero]
      rw [List.take_of_length_le (l := s.data.toList.drop (i + 1)) (by simp)]
    · rw [if_neg (by omega), if_neg hc, ih k (i + 1) (by omega) (by omega) (by omega)]
      cases first c (s.data.toList.drop (i + 1)) with
      | none => rfl
      | some j => simp only [Option.map_some]; rw [show i + 1 + j = i + (j + 1) from by omega]
theorem cut_f (s : ByteArray) (c : Nat) (hs : s.size ≤ 140737488351232) (k : Nat) (hk : s.size < k) : Q.spec_Cut.f k s c = some (match cutL c s.data.toList with | none => (s, ⟨#[]⟩, false) | some (a, b) => (bA a, bA b, true)) := by
  unfold Q.spec_Cut.f
  have := cut_l s c hs s.size k 0 (by omega) (by omega) hk
  rw [show ((0 : Nat) : Int) = 0 from rfl, List.drop_zero] at this
  rw [this, cutL]
  cases first c s.data.toList with
  | none => rfl
  | some j => simp
/-- How often a byte stands in a text. -/
def cnt (c : Nat) (l : List UInt8) : Nat := l.countP fun x => x.toNat == c
theorem cnt_cons (c : Nat) (x : UInt8) (l : List UInt8) : cnt c (x :: l) = cnt c l + if x.toNat = c then 1 else 0 := by
  unfold cnt
  rw [List.countP_cons]
  simp
theorem count_l (s : ByteArray) (c : Nat) (hs : s.size ≤ 140737488351232) (d : Nat) : ∀ (k i n : Nat), i ≤ s.size → n ≤ i → s.size - i = d → d < k →
    Q.spec_Count.l0 k s c n s.size i = some ((n + cnt c (s.data.toList.drop i) : Nat) : Int) := by
  induction d with
  | zero =>
    intro k i n hi hni hd hk
    obtain ⟨k, rfl⟩ : ∃ m, k = m + 1 := ⟨k - 1, by omega⟩
    have hdn : s.data.toList.drop i = [] := List.drop_of_length_le (by rw [← sz]; omega)
    rw [Q.spec_Count.l0, if_neg (by omega), hdn]
    rfl
  | succ d ih =>
    intro k i n hi hni hd hk
    obtain ⟨k, rfl⟩ : ∃ m, k = m + 1 := ⟨k - 1, by omega⟩
    have hil : i < s.size := by omega
    have hdr : s.data.toList.drop i = s.data.toList[i]'hil :: s.data.toList.drop (i + 1) := List.drop_eq_getElem_cons hil
    have hbt : bt s (i : Int) = ((s.data.toList[i]'hil).toNat : Int) := bt_list s i hil
    rw [Q.spec_Count.l0, if_pos (by omega), if_pos (by omega), if_pos (by omega), hbt, wr1 hil hs, hdr, cnt_cons]
    by_cases hc : (s.data.toList[i]'hil).toNat = c
    · rw [if_pos (by omega), if_pos hc, show wrap64 ((n : Int) + 1) = ((n + 1 : Nat) : Int) from by unfold wrap64; omega, ih k (i + 1) (n + 1) (by omega) (by omega) (by omega) (by omega)]
      congr 2
      omega
    · rw [if_neg (by omega), if_neg hc, ih k (i + 1) n (by omega) (by omega) (by omega) (by omega)]
      rfl
theorem count_f (s : ByteArray) (c : Nat) (hs : s.size ≤ 140737488351232) (k : Nat) (hk : s.size < k) : Q.spec_Count.f k s c = some ((cnt c s.data.toList : Nat) : Int) := by
  unfold Q.spec_Count.f
  have := count_l s c hs s.size k 0 0 (by omega) (by omega) (by omega) hk
  rw [show ((0 : Nat) : Int) = 0 from rfl, List.drop_zero, Nat.zero_add] at this
  exact this
theorem ascii_l (s : ByteArray) (hs : s.size ≤ 140737488351232) (d : Nat) : ∀ (k i : Nat), i ≤ s.size → s.size - i = d → d < k →
    Q.spec_IsASCII.l0 k s s.size i = some ((s.data.toList.drop i).all fun x => x.toNat < 128) := by
  induction d with
  | zero =>
    intro k i hi hd hk
    obtain ⟨k, rfl⟩ : ∃ m, k = m + 1 := ⟨k - 1, by omega⟩
    have hdn : s.data.toList.drop i = [] := List.drop_of_length_le (by rw [← sz]; omega)
    rw [Q.spec_IsASCII.l0, if_neg (by omega), hdn]
    rfl
  | succ d ih =>
    intro k i hi hd hk
    obtain ⟨k, rfl⟩ : ∃ m, k = m + 1 := ⟨k - 1, by omega⟩
    have hil : i < s.size := by omega
    have hdr : s.data.toList.drop i = s.data.toList[i]'hil :: s.data.toList.drop (i + 1) := List.drop_eq_getElem_cons hil
    have hbt : bt s (i : Int) = ((s.data.toList[i]'hil).toNat : Int) := bt_list s i hil
    rw [Q.spec_IsASCII.l0, if_pos (by omega), if_pos (by omega), if_pos (by omega), hbt, wr1 hil hs, hdr, List.all_cons]
    by_cases hc : (s.data.toList[i]'hil).toNat < 128
    · rw [if_neg (by omega), ih k (i + 1) (by omega) (by omega) (by omega), decide_eq_true hc, Bool.true_and]
    · rw [if_pos (by omega), decide_eq_false hc, Bool.false_and]
theorem ascii_f (s : ByteArray) (hs : s.size ≤ 140737488351232) (k : Nat) (hk : s.size < k) : Q.spec_IsASCII.f k s = some (s.data.toList.all fun x => x.toNat < 128) := by
  unfold Q.spec_IsASCII.f
  have := ascii_l s hs s.size k 0 (by omega) (by omega) hk
  rw [show ((0 : Nat) : Int) = 0 from rfl, List.drop_zero] at this
  exact this
/-- A list of which the statements speak. -/
def saidL (l : List UInt8) : Bool := ((splitOn 44 l).all fun e => cnt 58 e ≤ 1) && (l.all fun x => x.toNat < 128) && (cnt 91 l + cnt 93 l == 0)
theorem rdOf_bA (es : List (List UInt8)) (i : Nat) (h : i < es.length) : rdOf ByteArray.empty (es.map bA) i = bA es[i] := by
  unfold rdOf
  simp [List.getD, h]
theorem said_l (s : ByteArray) (es : List (List UInt8)) (hs : s.size ≤ 140737488351232) (hes : ∀ e ∈ es, e.length ≤ s.size) (hn : es.length ≤ 140737488351232) (d : Nat) : ∀ (k i : Nat), i ≤ es.length → es.length - i = d → d + s.size + 1 < k →
    Q.spec_IsSaid.l0 k s (es.map bA) es.length i = some (((es.drop i).all fun e => cnt 58 e ≤ 1) && (s.data.toList.all fun x => x.toNat < 128) && (cnt 91 s.data.toList + cnt 93 s.data.toList == 0)) := by
  induction d with
  | zero =>
    intro k i hi hd hk
    obtain ⟨k, rfl⟩ : ∃ m, k = m + 1 := ⟨k - 1, by omega⟩
    have hdn : es.drop i = [] := List.drop_of_length_le (by omega)
    have c1 := count_f s 91 hs k (by omega)
    have c2 := count_f s 93 hs k (by omega)
    have l1 : cnt 91 s.data.toList ≤ s.size := List.countP_le_length
    have l2 : cnt 93 s.data.toList ≤ s.size := List.countP_le_length
    rw [Q.spec_IsSaid.l0, if_neg (by omega), ascii_f s hs k (by omega), hdn]
    simp only [Option.bind_some, List.all_nil, Bool.true_and]
    cases h : s.data.toList.all fun x => x.toNat < 128 with
    | false => rfl
    | true =>
      rw [if_pos rfl]
      rw [show ((91 : Nat) : Int) = 91 from rfl] at c1
      rw [show ((93 : Nat) : Int) = 93 from rfl] at c2
      rw [c1, c2]
      simp only [Option.bind_some, Bool.true_and]
      rw [show wrap64 (((cnt 91 s.data.toList : Nat) : Int) + ((cnt 93 s.data.toList : Nat) : Int)) = ((cnt 91 s.data.toList + cnt 93 s.data.toList : Nat) : Int) from by unfold wrap64; omega]
      congr 1
      rw [Bool.eq_iff_iff]
      simp only [beq_iff_eq]
      omega
  | succ d ih =>
    intro k i hi hd hk
    obtain ⟨k, rfl⟩ : ∃ m, k = m + 1 := ⟨k - 1, by omega⟩
    have hil : i < es.length := by omega
    have hle := hes es[i] (List.getElem_mem hil)
    have c1 := count_f (bA es[i]) 58 (by rw [bA_size]; omega) k (by rw [bA_size]; omega)
    rw [bA_list, show ((58 : Nat) : Int) = 58 from rfl] at c1
    rw [Q.spec_IsSaid.l0, if_pos (by omega), if_pos (by omega), if_pos (by simp; omega), rdOf_bA es i hil, c1, wr1 hil hn, List.drop_eq_getElem_cons hil, List.all_cons]
    simp only [Option.bind_some]
    by_cases hc : cnt 58 es[i] ≤ 1
    · rw [if_neg (by omega), ih k (i + 1) (by omega) (by omega) (by omega)]
      simp [hc]
    · rw [if_pos (by omega)]
      simp [hc]
theorem splitOn_mem {c : Nat} : ∀ {l e : List UInt8}, e ∈ splitOn c l → e.Sublist l
  | [], e, h => by simp [splitOn] at h; subst h; exact List.Sublist.refl _
  | x :: r, e, h => by
    rw [splitOn] at h
    split at h
    · rcases List.mem_cons.1 h with rfl | h
      · exact List.nil_sublist _
      · exact (splitOn_mem h).cons _
    · obtain ⟨a, t, ea⟩ := splitOn_ne c r
      rw [ea] at h
      simp only [List.mem_cons] at h
      rcases h with rfl | h
      · exact (splitOn_mem (by rw [ea]; simp)).cons_cons _
      · exact (splitOn_mem (by rw [ea]; simp [h])).cons _
theorem said_f (s : ByteArray) (hs : s.size < 8796093022200) (k : Nat) (hk : 2 * s.size + 3 < k) : Q.spec_IsSaid.f k s = some (saidL s.data.toList) := by
  unfold Q.spec_IsSaid.f
  have h1 := split_f s 44 (by omega) k (by omega)
  rw [show ((44 : Nat) : Int) = 44 from rfl] at h1
  rw [h1]
  simp only [Option.bind_some]
  have hl := splitOn_len 44 s.data.toList
  rw [← sz] at hl
  have := said_l s (splitOn 44 s.data.toList) (by omega) (fun e he => by rw [sz]; exact (splitOn_mem he).length_le) (by omega) (splitOn 44 s.data.toList).length k 0 (by omega) (by omega) (by omega)
  rw [show ((0 : Nat) : Int) = 0 from rfl, List.drop_zero] at this
  rw [List.length_map]
  exact this
end Go.Proofs.YtpemdpfageikfaaGreatDoor.R
/- Plain laws: blanks, numbers. -/
namespace Go.Proofs.YtpemdpfageikfaaGreatDoor.R
open Go.RowKit Go.Proofs.YtpemdpfageikfaaGreatDoorW.PrintWords Go.Proofs.YtpemdpfageikfaaGreatDoorW.PrintLast Go.Proofs.YtpemdpfageikfaaGreatDoorW.PrintMore

theorem bA_toList (l : List UInt8) : (bA l).toList = l := by rw [ByteArray.toList_eq, bA_list]
theorem blank_f (x : UInt8) : Q.spec_isBlank.f (x.toNat : Int) = some (Lib.isSp x) := by
  have h : Lib.isSp x = decide (x.toNat = 9 ∨ x.toNat = 10 ∨ x.toNat = 11 ∨ x.toNat = 12 ∨ x.toNat = 13 ∨ x.toNat = 32) := by
    rw [Bool.eq_iff_iff]
    simp only [Lib.isSp, Bool.or_eq_true, beq_iff_eq, decide_eq_true_eq, ← UInt8.toNat_inj]
    simp
    omega
  rw [h]
  unfold Q.spec_isBlank.f
  split
  · rw [decide_eq_true (by omega)]
  · split
    · congr 1
      rw [Bool.eq_iff_iff]
      simp only [decide_eq_true_eq]
      omega
    · rw [decide_eq_false (by omega)]
theorem bt_bA (l : List UInt8) (i : Nat) (h : i < l.length) : bt (bA l) (i : Int) = ((l[i]'h).toNat : Int) := by
  rw [bt_list (bA l) i (by rw [bA_size]; exact h)]
  simp [bA_list, bA]
theorem ext_bA (l : List UInt8) (a b : Nat) : (bA l).extract a b = bA ((l.drop a).take (b - a)) := by rw [extract_bA, bA_list]
theorem trimR : ∀ (d k : Nat) (l : List UInt8), l.length = d → d ≤ 140737488351232 → d < k → Q.spec_Trimmed.l1 k (bA l) = some (bA (l.reverse.dropWhile Lib.isSp).reverse)
  | 0, k, l, hd, _, hk => by
    obtain ⟨k, rfl⟩ : ∃ m, k = m + 1 := ⟨k - 1, by omega⟩
    have : l = [] := List.eq_nil_of_length_eq_zero hd
    subst this
    rw [Q.spec_Trimmed.l1, if_pos (by rw [bA_toList])]
    rfl
  | d + 1, k, l, hd, hb, hk => by
    obtain ⟨k, rfl⟩ : ∃ m, k = m + 1 := ⟨k - 1, by omega⟩
    obtain ⟨r, x, rfl⟩ : ∃ r x, l = r ++ [x] := ⟨l.dropLast, l.getLast (by intro h; subst h; simp at hd), (List.dropLast_concat_getLast _).symm⟩
    have hr : r.length = d := by simp at hd; omega
    have hs : (bA (r ++ [x])).size = d + 1 := by rw [bA_size, hd]
    have hw : wrap64 (((d + 1 : Nat) : Int) - 1) = (d : Int) := by unfold wrap64; omega
    rw [Q.spec_Trimmed.l1, if_neg (by rw [bA_toList]; simp), hs, hw, if_pos (by omega), if_pos (by omega), bt_bA _ d (by omega), show (r ++ [x])[d]'(by omega) = x from by simp [hr], blank_f]
    simp only [Option.bind_some, List.reverse_append, List.reverse_cons, List.reverse_nil, List.nil_append, List.singleton_append]
    cases hx : Lib.isSp x with
    | true =>
      rw [if_pos rfl, if_pos (by omega), ext_bA, Int.toNat_natCast]
      simp only [List.drop_zero, Nat.sub_zero]
      rw [show (r ++ [x]).take d = r from by rw [← hr, List.take_left], trimR d k r hr (by omega) (by omega), List.dropWhile_cons_of_pos (by rw [hx])]
    | false =>
      rw [if_neg (by simp), List.dropWhile_cons_of_neg (by rw [hx]; simp)]
      simp
theorem trimL : ∀ (d k : Nat) (l : List UInt8), l.length = d → d ≤ 140737488351232 → 2 * d + 2 < k → Q.spec_Trimmed.l0 k (bA l) = some (bA (Lib.trimSpace l))
  | 0, k, l, hd, _, hk => by
    obtain ⟨k, rfl⟩ : ∃ m, k = m + 2 := ⟨k - 2, by omega⟩
    have : l = [] := List.eq_nil_of_length_eq_zero hd
    subst this
    rw [Q.spec_Trimmed.l0, if_pos (by rw [bA_toList]), Q.spec_Trimmed.j1, trimR 0 k [] rfl (by omega) (by omega)]
    rfl
  | d + 1, k, l, hd, hb, hk => by
    obtain ⟨k, rfl⟩ : ∃ m, k = m + 2 := ⟨k - 2, by omega⟩
    match l, hd with
    | x :: r, hd =>
      have hr : r.length = d := by simp at hd; omega
      have hs : (bA (x :: r)).size = d + 1 := by rw [bA_size, hd]
      rw [Q.spec_Trimmed.l0, if_neg (by rw [bA_toList]; simp), hs, if_pos (by omega)]
      have := bt_bA (x :: r) 0 (by simp)
      rw [show ((0 : Nat) : Int) = 0 from rfl] at this
      rw [this, List.getElem_cons_zero, blank_f]
      simp only [Option.bind_some]
      cases hx : Lib.isSp x with
      | true =>
        rw [if_pos rfl, if_pos (by omega), ext_bA]
        rw [show ((x :: r).drop 1).take (d + 1 - 1) = r from by simp [← hr], trimL d (k + 1) r hr (by omega) (by omega)]
        unfold Lib.trimSpace
        rw [List.dropWhile_cons_of_pos (by rw [hx])]
      | false =>
        rw [if_neg (by simp), Q.spec_Trimmed.j1, trimR (d + 1) k (x :: r) hd hb (by omega)]
        unfold Lib.trimSpace
        rw [List.dropWhile_cons_of_neg (by rw [hx]; simp)]
theorem trim_f (s : ByteArray) (hs : s.size ≤ 140737488351232) (k : Nat) (hk : 2 * s.size + 2 < k) : Q.spec_Trimmed.f k s = some (bA (Lib.trimSpace s.data.toList)) := by
  unfold Q.spec_Trimmed.f
  have := trimL s.size k s.data.toList rfl hs hk
  rw [bA_of] at this
  exact this
end Go.Proofs.YtpemdpfageikfaaGreatDoor.R
/- Plain laws: numbers of digits. -/
namespace Go.Proofs.YtpemdpfageikfaaGreatDoor.R
open Go.RowKit Go.Proofs.YtpemdpfageikfaaGreatDoorW.PrintWords Go.Proofs.YtpemdpfageikfaaGreatDoorW.PrintLast Go.Proofs.YtpemdpfageikfaaGreatDoorW.PrintMore

def isDig (c : UInt8) : Prop := 48 ≤ c.toNat ∧ c.toNat ≤ 57
instance (c : UInt8) : Decidable (isDig c) := inferInstanceAs (Decidable (_ ∧ _))
/-- A number of digits, at most a greatest one. -/
def numL (most : Nat) : List UInt8 → Nat → Option Nat
  | [], n => some n
  | c :: r, n => if isDig c then (if most < n * 10 + (c.toNat - 48) then none else numL most r (n * 10 + (c.toNat - 48))) else none
theorem numL_le {M : Nat} : ∀ {l : List UInt8} {n v : Nat}, n ≤ M → numL M l n = some v → v ≤ M
  | [], n, v, h, e => by cases e; exact h
  | c :: r, n, v, h, e => by
    rw [numL] at e
    split at e
    · split at e
      · cases e
      · exact numL_le (by omega) e
    · cases e
theorem dig_step {n c : Nat} (hn : n ≤ 16777215) (h0 : 48 ≤ c) (h1 : c ≤ 57) : wrap64 ((wrap64 ((n : Int) * 10)) + ((((c : Nat) : Int) - 48) % 256)) = ((n * 10 + (c - 48) : Nat) : Int) := by
  have e0 : wrap64 ((n : Int) * 10) = ((n * 10 : Nat) : Int) := by unfold wrap64; omega
  have e2 : (((c : Nat) : Int) - 48) % 256 = ((c - 48 : Nat) : Int) := by omega
  rw [e0, e2]
  unfold wrap64
  omega
theorem number_l (s : ByteArray) (M : Nat) (hM : M ≤ 1000000) (hs : s.size ≤ 140737488351232) (d : Nat) : ∀ (k i n : Nat), i ≤ s.size → n ≤ M → s.size - i = d → 2 * d < k →
    Q.spec_number.l0 k s M n s.size i = some (match numL M (s.data.toList.drop i) n with | none => (0, false) | some v => ((v : Int), (s.toList != ([] : List UInt8)))) := by
  induction d with
  | zero =>
    intro k i n hi hn hd hk
    obtain ⟨k, rfl⟩ : ∃ m, k = m + 1 := ⟨k - 1, by omega⟩
    have hdn : s.data.toList.drop i = [] := List.drop_of_length_le (by rw [← sz]; omega)
    rw [Q.spec_number.l0, if_neg (by omega), hdn]
    rfl
  | succ d ih =>
    intro k i n hi hn hd hk
    obtain ⟨k, rfl⟩ : ∃ m, k = m + 2 := ⟨k - 2, by omega⟩
    have hil : i < s.size := by omega
    have hdr : s.data.toList.drop i = s.data.toList[i]'hil :: s.data.toList.drop (i + 1) := List.drop_eq_getElem_cons hil
    have hbt : bt s (i : Int) = ((s.data.toList[i]'hil).toNat : Int) := bt_list s i hil
    rw [Q.spec_number.l0, if_pos (by omega), if_pos (by omega), if_pos (by omega), hbt, hdr, numL]
    generalize s.data.toList[i]'hil = c at hbt
    have h255 := c.toNat_lt
    by_cases h1 : c.toNat < 48
    · rw [if_pos (by omega), if_neg (by unfold isDig; omega), Q.spec_number.j1, if_pos rfl]
    · rw [if_neg (by omega), Q.spec_number.j1]
      by_cases h2 : 57 < c.toNat
      · rw [if_neg (show ¬ isDig c by unfold isDig; omega), if_pos (decide_eq_true (by omega))]
      · have e1 : wrap64 ((wrap64 ((n : Int) * 10)) + ((((c.toNat : Nat) : Int) - 48) % 256)) = ((n * 10 + (c.toNat - 48) : Nat) : Int) := dig_step (by omega) (by omega) (by omega)
        rw [if_pos (show isDig c by unfold isDig; omega), if_neg (by rw [decide_eq_false (by omega)]; simp), if_pos (by omega), if_pos (by omega), hbt, e1, wr1 hil hs]
        by_cases h3 : M < n * 10 + (c.toNat - 48)
        · rw [if_pos (by omega), if_pos h3]
        · rw [if_neg (by omega), if_neg h3, ih k (i + 1) _ (by omega) (by omega) (by omega) (by omega)]
theorem number_f (s : ByteArray) (M : Nat) (hM : M ≤ 1000000) (hs : s.size ≤ 140737488351232) (k : Nat) (hk : 2 * s.size < k) :
    Q.spec_number.f k s M = some (match numL M s.data.toList 0 with | none => (0, false) | some v => ((v : Int), (s.toList != ([] : List UInt8)))) := by
  unfold Q.spec_number.f
  have := number_l s M hM hs s.size k 0 0 (by omega) (by omega) (by omega) hk
  rw [List.drop_zero] at this
  exact this
/-- dtoi. -/
def dt : List UInt8 → Nat → Nat → Int × Int × Bool
  | [], n, i => if i = 0 then (0, 0, false) else (n, i, true)
  | c :: r, n, i => if isDig c then (if 16777215 ≤ n * 10 + (c.toNat - 48) then (16777215, i, false) else dt r (n * 10 + (c.toNat - 48)) (i + 1)) else (if i = 0 then (0, 0, false) else (n, i, true))
theorem dtoi_l (s : ByteArray) (hs : s.size ≤ 140737488351232) (d : Nat) : ∀ (k i n : Nat), i ≤ s.size → n < 16777215 → s.size - i = d → 2 * d + 1 < k →
    Q.netcidr_dtoi.l0 k s n i = some (dt (s.data.toList.drop i) n i) := by
  induction d with
  | zero =>
    intro k i n hi hn hd hk
    obtain ⟨k, rfl⟩ : ∃ m, k = m + 2 := ⟨k - 2, by omega⟩
    have hdn : s.data.toList.drop i = [] := List.drop_of_length_le (by rw [← sz]; omega)
    rw [Q.netcidr_dtoi.l0, if_neg (by omega), hdn, Q.netcidr_dtoi.j1, if_neg (by simp), dt]
    by_cases h : i = 0
    · rw [if_pos (by omega), if_pos h]
    · rw [if_neg (by omega), if_neg h]
  | succ d ih =>
    intro k i n hi hn hd hk
    obtain ⟨k, rfl⟩ : ∃ m, k = m + 2 := ⟨k - 2, by omega⟩
    have hil : i < s.size := by omega
    have hdr : s.data.toList.drop i = s.data.toList[i]'hil :: s.data.toList.drop (i + 1) := List.drop_eq_getElem_cons hil
    have hbt : bt s (i : Int) = ((s.data.toList[i]'hil).toNat : Int) := bt_list s i hil
    rw [Q.netcidr_dtoi.l0, if_pos (by omega), if_pos (by omega), hbt, hdr, dt]
    generalize s.data.toList[i]'hil = c at hbt
    have h255 := c.toNat_lt
    have hend : (if (i : Int) = 0 then some (((0 : Int), (0 : Int), false) : Int × Int × Bool) else some ((n : Int), (i : Int), true)) = some (if i = 0 then (0, 0, false) else ((n : Int), (i : Int), true)) := by
      by_cases h : i = 0
      · rw [if_pos (by omega), if_pos h]
      · rw [if_neg (by omega), if_neg h]
    by_cases h1 : 48 ≤ c.toNat
    · rw [if_pos (by omega), Q.netcidr_dtoi.j1]
      by_cases h2 : c.toNat ≤ 57
      · have e1 : wrap64 ((wrap64 ((n : Int) * 10)) + ((((c.toNat : Nat) : Int) - 48) % 256)) = ((n * 10 + (c.toNat - 48) : Nat) : Int) := dig_step (by omega) (by omega) (by omega)
        rw [if_pos (decide_eq_true (by omega)), if_pos (by omega), if_pos (by omega), hbt, e1, wr1 hil hs, if_pos (show isDig c by unfold isDig; omega)]
        by_cases h3 : 16777215 ≤ n * 10 + (c.toNat - 48)
        · rw [if_pos (by omega), if_pos h3]
        · rw [if_neg (by omega), if_neg h3, ih k (i + 1) _ (by omega) (by omega) (by omega) (by omega)]
      · rw [if_neg (by rw [decide_eq_false (by omega)]; simp), if_neg (show ¬ isDig c by unfold isDig; omega)]
        exact hend
    · rw [if_neg (by omega), Q.netcidr_dtoi.j1, if_neg (by simp), if_neg (show ¬ isDig c by unfold isDig; omega)]
      exact hend
theorem dtoi_f (s : ByteArray) (hs : s.size ≤ 140737488351232) (k : Nat) (hk : 2 * s.size + 1 < k) : Q.netcidr_dtoi.f k s = some (dt s.data.toList 0 0) := by
  unfold Q.netcidr_dtoi.f
  have := dtoi_l s hs s.size k 0 0 (by omega) (by omega) (by omega) hk
  rw [List.drop_zero] at this
  exact this
theorem dt_big (M : Nat) : ∀ (l : List UInt8) (n i : Nat), M < n → (dt l n i).2.2 = false ∨ (M : Int) < (dt l n i).1
  | [], n, i, h => by
    rw [dt]
    split
    · exact Or.inl rfl
    · exact Or.inr (by show (M : Int) < (n : Int); omega)
  | c :: r, n, i, h => by
    rw [dt]
    split
    · split
      · exact Or.inl rfl
      · exact dt_big M r _ _ (by omega)
    · split
      · exact Or.inl rfl
      · exact Or.inr (by show (M : Int) < (n : Int); omega)
theorem dt_num (M : Nat) (hM : M < 16777215) : ∀ (l : List UInt8) (n i : Nat), n ≤ M → match numL M l n with
    | some v => (i = 0 → l ≠ []) → dt l n i = ((v : Int), ((i + l.length : Nat) : Int), true)
    | none => (dt l n i).2.2 = false ∨ (dt l n i).2.1 < ((i + l.length : Nat) : Int) ∨ (M : Int) < (dt l n i).1
  | [], n, i, h => by
    rw [numL]
    intro hi
    rw [dt, if_neg (fun e => hi e rfl)]
    rfl
  | c :: r, n, i, h => by
    rw [numL]
    by_cases h1 : isDig c
    · rw [if_pos h1, dt, if_pos h1]
      by_cases h2 : M < n * 10 + (c.toNat - 48)
      · rw [if_pos h2]
        simp only []
        split
        · exact Or.inl rfl
        · rcases dt_big M r _ (i + 1) h2 with h3 | h3
          · exact Or.inl h3
          · exact Or.inr (Or.inr h3)
      · rw [if_neg h2, if_neg (by omega)]
        have := dt_num M hM r (n * 10 + (c.toNat - 48)) (i + 1) (by omega)
        revert this
        cases numL M r (n * 10 + (c.toNat - 48)) with
        | none =>
          intro this
          simp only [List.length_cons] at this ⊢
          rw [show i + (r.length + 1) = i + 1 + r.length from by omega]
          exact this
        | some v =>
          intro this _
          simp only [List.length_cons]
          rw [show i + (r.length + 1) = i + 1 + r.length from by omega]
          exact this (by omega)
    · rw [if_neg h1, dt, if_neg h1]
      simp only []
      split
      · exact Or.inl rfl
      · exact Or.inr (Or.inl (by show (i : Int) < _; simp; omega))
end Go.Proofs.YtpemdpfageikfaaGreatDoor.R
/- Plain laws: addresses of four numbers, by the reference. -/
namespace Go.Proofs.YtpemdpfageikfaaGreatDoor.R
open Go.RowKit Go.Proofs.YtpemdpfageikfaaGreatDoorW.PrintWords Go.Proofs.YtpemdpfageikfaaGreatDoorW.PrintLast Go.Proofs.YtpemdpfageikfaaGreatDoorW.PrintMore

/-- A field of an address: its number. -/
def fieldL (p : List UInt8) : Option Nat := match numL 255 p 0 with
  | none => none
  | some n => match p with
    | [] => none
    | c :: r => if r ≠ [] ∧ c.toNat = 48 then none else some n
def fieldsL : List (List UInt8) → Option (List Nat)
  | [] => some []
  | p :: r => match fieldL p with
    | none => none
    | some n => (fieldsL r).map (n :: ·)
/-- An address's four numbers. -/
def addrL (l : List UInt8) : Option (List Nat) := if (splitOn 46 l).length = 4 then fieldsL (splitOn 46 l) else none
theorem or_add32 (i : Nat) (x y : Int) (m : Int) (hm : m = ((2 ^ i : Nat) : Int)) (hx0 : 0 ≤ x) (hx1 : x < 4294967296) (hy0 : 0 ≤ y) (hy1 : y < m) (hmx : x % m = 0) (hy2 : y < 4294967296) :
    bits .or .u32 x y = x + y := by
  rw [u32_or x y hx0 hx1 hy0 hy2]
  subst hm
  have h1 : x.toNat % 2 ^ i = 0 := by
    have : ((x.toNat % 2 ^ i : Nat) : Int) = 0 := by
      rw [Int.natCast_emod, Int.toNat_of_nonneg hx0]; exact hmx
    exact_mod_cast this
  have h2 : y.toNat < 2 ^ i := by
    have : (y.toNat : Int) < ((2 ^ i : Nat) : Int) := by rw [Int.toNat_of_nonneg hy0]; exact hy1
    exact_mod_cast this
  rw [nat_join i _ _ h1 h2]
  omega
def valL (x : Nat) (ns : List Nat) : Nat := ns.foldl (fun a n => a * 256 + n) x
theorem fieldL_le {p : List UInt8} {n : Nat} (h : fieldL p = some n) : n ≤ 255 := by
  unfold fieldL at h
  split at h
  · cases h
  · rename_i m e
    have := numL_le (by omega) e
    split at h
    · cases h
    · split at h
      · cases h
      · cases h; exact this
theorem address_l (es : List (List UInt8)) (S : Nat) (hS : S ≤ 1000000) (hes : ∀ e ∈ es, e.length ≤ S) (hn : es.length ≤ 4) (d : Nat) : ∀ (k i x : Nat), i ≤ es.length → es.length - i = d → d + 2 * S + 1 < k → x < 256 ^ i →
    Q.spec_Address.l0 k x (es.map bA) es.length i = some (match fieldsL (es.drop i) with | none => (0, false) | some ns => ((valL x ns : Nat), true)) := by
  induction d with
  | zero =>
    intro k i x hi hd hk hx
    obtain ⟨k, rfl⟩ : ∃ m, k = m + 1 := ⟨k - 1, by omega⟩
    have hdn : es.drop i = [] := List.drop_of_length_le (by omega)
    rw [Q.spec_Address.l0, if_neg (by omega), hdn]
    rfl
  | succ d ih =>
    intro k i x hi hd hk hx
    obtain ⟨k, rfl⟩ : ∃ m, k = m + 1 := ⟨k - 1, by omega⟩
    have hil : i < es.length := by omega
    have hle := hes es[i] (List.getElem_mem hil)
    have hx3 : x < 16777216 := by
      have : 256 ^ i ≤ 256 ^ 3 := Nat.pow_le_pow_right (by omega) (by omega)
      omega
    have hnum := number_f (bA es[i]) 255 (by omega) (by rw [bA_size]; omega) k (by rw [bA_size]; omega)
    rw [bA_list, bA_toList, show ((255 : Nat) : Int) = 255 from rfl] at hnum
    have hbt0 : ∀ (h : 0 < es[i].length), bt (bA es[i]) 0 = ((es[i][0]'h).toNat : Int) := fun h => bt_bA es[i] 0 h
    rw [Q.spec_Address.l0, if_pos (by omega), if_pos (by omega), if_pos (by simp; omega), rdOf_bA es i hil, hnum, List.drop_eq_getElem_cons hil, fieldsL, fieldL, bA_size, wr1 hil (by omega)]
    generalize es[i] = p at hle hbt0
    simp only [Option.bind_some]
    cases hN : numL 255 p 0 with
    | none => simp
    | some n =>
      have hn255 := numL_le (by omega) hN
      have hor : bits .or .u32 (((x : Int) * 256) % 4294967296) (((n : Nat) : Int) % 4294967296) = ((x * 256 + n : Nat) : Int) := by
        rw [or_add32 8 _ _ 256 (by decide) (by omega) (by omega) (by omega) (by omega) (by omega) (by omega)]
        omega
      have hpow : x * 256 + n < 256 ^ (i + 1) := by rw [Nat.pow_succ]; omega
      match p with
      | [] => simp
      | c :: r =>
        have hb := hbt0 (by simp)
        simp only [List.getElem_cons_zero] at hb
        simp only [hor]
        rw [if_pos (by simp)]
        by_cases hr : r = []
        · subst hr
          rw [if_neg (by simp), ih k (i + 1) _ (by omega) (by omega) (by omega) hpow]
          cases fieldsL (es.drop (i + 1)) <;> simp [valL]
        · have hl : 1 < (c :: r).length := by
            cases r with
            | nil => exact absurd rfl hr
            | cons a t => simp
          rw [if_pos (by omega), if_pos (by omega), hb]
          by_cases h48 : c.toNat = 48
          · rw [if_pos (by omega)]
            simp [hr, h48]
          · rw [if_neg (by omega), ih k (i + 1) _ (by omega) (by omega) (by omega) hpow]
            cases fieldsL (es.drop (i + 1)) <;> simp [valL, h48]
theorem address_f (s : ByteArray) (hs : s.size ≤ 1000000) (k : Nat) (hk : 3 * s.size + 10 < k) : Q.spec_Address.f k s = some (match addrL s.data.toList with | none => (0, false) | some ns => ((valL 0 ns : Nat), true)) := by
  unfold Q.spec_Address.f addrL
  have h1 := split_f s 46 (by omega) k (by omega)
  rw [show ((46 : Nat) : Int) = 46 from rfl] at h1
  rw [h1]
  simp only [Option.bind_some, List.length_map]
  by_cases h4 : (splitOn 46 s.data.toList).length = 4
  · rw [if_pos (by omega), if_pos h4]
    have := address_l (splitOn 46 s.data.toList) s.size hs (fun e he => by rw [sz]; exact (splitOn_mem he).length_le) (by omega) (splitOn 46 s.data.toList).length k 0 0 (by omega) (by omega) (by omega) (by simp)
    rw [List.drop_zero] at this
    exact this
  · rw [if_neg (by omega), if_neg h4]
end Go.Proofs.YtpemdpfageikfaaGreatDoor.R
