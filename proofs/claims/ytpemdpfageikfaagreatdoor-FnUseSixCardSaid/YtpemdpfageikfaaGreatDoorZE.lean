/- The four numbers of an address; parseIPv4; ParseAddr. -/
import Derived.Test.YtpemdpfageikfaaGreatDoorZD
set_option linter.unusedVariables false
set_option linter.unusedSimpArgs false
/-
  parseIPv4Fields.
-/
namespace Go.Proofs.YtpemdpfageikfaaGreatDoor.R
open Go.RowKit Go.Proofs.YtpemdpfageikfaaGreatDoorW.PrintWords Go.Proofs.YtpemdpfageikfaaGreatDoorW.PrintLast Go.Proofs.YtpemdpfageikfaaGreatDoorW.PrintMore

/-- The four fields of a text, read on: what stood ahead, the number so far, the field's place, how many digits, the fields so far. -/
def p4 : List UInt8 → Option UInt8 → Nat → Nat → Nat → List Int → Option (List Int)
  | [], _, v, p, _, fs => if p < 3 then none else some (fs.set 3 v)
  | c :: r, prev, v, p, d, fs =>
    if 48 ≤ c.toNat ∧ c.toNat ≤ 57 then
      if d = 1 ∧ v = 0 then none
      else if 255 < v * 10 + c.toNat - 48 then none
      else p4 r (some c) (v * 10 + c.toNat - 48) p (d + 1) fs
    else if c.toNat = 46 then
      if prev = none ∨ r = [] ∨ prev = some 46 then none
      else if p = 3 then none
      else p4 r (some c) 0 (p + 1) 0 (fs.set p v)
    else none
/-- What parseIPv4Fields leaves. -/
def Post4 (w : World) (fb : Nat) (T : TypeId) (R : Option (List Int)) (e : Ending) (w' : World) : Prop :=
  match R with
  | some fs => e = .returned .nilIface ∧ fs.length = 4 ∧ put w fb fs T = w'
  | none => ∃ ev fs, e = .returned (.iface 145 ev) ∧ fs.length = 4 ∧ put w fb fs T = w'
theorem post4_no {w : World} {fb : Nat} {T : TypeId} {R : Option (List Int)} (h : R = none) (ev : Value) (fs : List Int) (hf : fs.length = 4) : Post4 w fb T R (.returned (.iface 145 ev)) (put w fb fs T) := by
  subst h; exact ⟨ev, fs, rfl, hf, rfl⟩
theorem int_eq {k : IntKind} {a b : Int} (h : a = b) : Value.int k a = Value.int k b := by rw [h]
def prevOf (l : List UInt8) (k : Nat) : Option UInt8 := if k = 0 then none else l[k - 1]?

set_option maxRecDepth 100000 in
set_option maxHeartbeats 8000000 in
theorem v4fields (s : ByteArray) (fb : Nat) (fs0 : List Int) (T : TypeId) (w : World) (hs : s.size ≤ 140737488351232) (hlt : fb < w.heap.size) (hf : fs0.length = 4) (hw : w = put w fb fs0 T) (R : Option (List Int)) (hR : p4 s.data.toList none 0 0 0 fs0 = R) :
    Calls Tryz.prog 113 #[.string s, .int .i64 0, .int .i64 s.size, .slice (some ⟨fb, 0, none⟩) 4 4] w (Post4 w fb T R) := by
  have HW := Lib.hid hw
  clear hw
  have HR := Lib.hid hR
  clear hR
  go_enter Tryz.func113, Tryz.ntmps113
  go_wp2
  go_loopw [9, 10, 11, 13] (fun v9 v10 v11 v13 wr => ∃ (k v p d : Nat) (fs : List Int), k ≤ s.size ∧ v9 = .int .i64 v ∧ v10 = .int .i64 p ∧ v11 = .int .i64 d ∧ v13 = .int .i64 k ∧ v ≤ 255 ∧ p ≤ 3 ∧ d ≤ k ∧ fs.length = 4 ∧ wr = put w fb fs T ∧ Hid (p4 (s.data.toList.drop k) (prevOf s.data.toList k) v p d fs = R)) (fun _ _ _ i _ => s.size - (intOf i).toNat)
  case atStart =>
    exact ⟨0, 0, 0, 0, fs0, by omega, rfl, rfl, rfl, rfl, by omega, by omega, by omega, hf, HW.out, HR⟩
  case round =>
    obtain ⟨k, v, p, d, fs, hk, rfl, rfl, rfl, rfl, hv, hp, hd, hfl, rfl, H⟩ := hrel
    have froz : ∀ j, (put w fb fs T).frozen? ⟨fb, j, none⟩ = false := fun j => put_froz hlt j
    by_cases hks : k < s.size
    · obtain ⟨c, hc⟩ : ∃ c, s[k] = c := ⟨_, rfl⟩
      have hdr : s.data.toList.drop k = c :: s.data.toList.drop (k + 1) := by
        rw [List.drop_eq_getElem_cons (by simpa using hks), ← hc]; rfl
      have hpv : prevOf s.data.toList (k + 1) = some c := by
        simp only [prevOf, Nat.add_sub_cancel, Nat.add_eq_zero_iff, Nat.one_ne_zero, and_false, if_false]
        rw [List.getElem?_eq_getElem (by simpa using hks), ← hc]; rfl
      have H1 := H.out
      rw [hdr, p4] at H1
      rw [← hpv] at H1
      obtain ⟨x, hx⟩ : ∃ x : Int, (c.toNat : Int) = x := ⟨_, rfl⟩
      have x0 : 0 ≤ x := by omega
      have x255 : x ≤ 255 := by have := c.toNat_lt; omega
      have hxc := Lib.hid hx
      replace hx : ((s[k]'hks).toNat : Int) = x := by rw [hc]; exact hx
      have HC := Lib.hid hc
      clear hc hdr H
      have HP := Lib.hid hpv
      clear hpv
      have h1 := Lib.hid H1
      clear H1
      by_cases hd1 : 48 ≤ x
      · by_cases hd2 : x ≤ 57
        · by_cases hz : d = 1 ∧ v = 0
          · obtain ⟨rfl, rfl⟩ := hz
            go_wp2
            go_ret
            exact post4_no (by rw [← h1.out]; have := hxc.out; rw [if_pos ⟨by omega, by omega⟩]; rfl) _ fs hfl
          · by_cases he : d = 1
            · have hd' := Lib.hid he
              have t0 : ((v : Int) == 0) = false := by simp; omega
              have t1 : ((d : Int) == 1) = true := by simp; omega
              have hz' := Lib.hid hz
              clear hz he
              by_cases hv2 : 255 < (v : Int) * 10 + x - 48
              · go_wp2
                go_ret
                exact post4_no (by rw [← h1.out]; have := hxc.out; rw [if_pos ⟨by omega, by omega⟩, if_neg hz'.out, if_pos (by omega)]) _ fs hfl
              · go_wp2
                refine ⟨⟨k + 1, v * 10 + c.toNat - 48, p, d + 1, fs, by omega, int_eq (by have := hxc.out; omega), rfl, by go_num, by go_num, by have := hxc.out; omega, hp, by omega, hfl, rfl, Lib.hid ?_⟩, by simp [intOf]; omega⟩
                rw [← h1.out]; have := hxc.out; rw [if_pos ⟨by omega, by omega⟩, if_neg hz'.out, if_neg (by omega)]
            · have t1 : ((d : Int) == 1) = false := by simp; omega
              have hz' := Lib.hid hz
              clear hz he
              by_cases hv2 : 255 < (v : Int) * 10 + x - 48
              · go_wp2
                go_ret
                exact post4_no (by rw [← h1.out]; have := hxc.out; rw [if_pos ⟨by omega, by omega⟩, if_neg hz'.out, if_pos (by omega)]) _ fs hfl
              · go_wp2
                refine ⟨⟨k + 1, v * 10 + c.toNat - 48, p, d + 1, fs, by omega, int_eq (by have := hxc.out; omega), rfl, by go_num, by go_num, by have := hxc.out; omega, hp, by omega, hfl, rfl, Lib.hid ?_⟩, by simp [intOf]; omega⟩
                rw [← h1.out]; have := hxc.out; rw [if_pos ⟨by omega, by omega⟩, if_neg hz'.out, if_neg (by omega)]
        · by_cases h46 : x = 46
          · omega
          · have t46 : (x == 46) = false := by simp; omega
            have n46 := Lib.hid h46
            clear h46
            go_wp2
            go_ret
            exact post4_no (by rw [← h1.out]; have := hxc.out; have := n46.out; rw [if_neg (by omega), if_neg (by omega)]) _ fs hfl
      · by_cases h46 : x = 46
        · have t46 : (x == 46) = true := by simp; omega
          have E46 := Lib.hid h46
          clear h46
          have no : prevOf s.data.toList k = none ∨ s.data.toList.drop (k + 1) = [] ∨ prevOf s.data.toList k = some 46 → R = none := fun h => by
            rw [← h1.out]; have := hxc.out; have := E46.out; rw [if_neg (by omega), if_pos (by omega), if_pos h]
          have NO := Lib.hid no
          have step : ¬ (prevOf s.data.toList k = none ∨ s.data.toList.drop (k + 1) = [] ∨ prevOf s.data.toList k = some 46) → (if p = 3 then none else p4 (s.data.toList.drop (k + 1)) (prevOf s.data.toList (k + 1)) 0 (p + 1) 0 (fs.set p v)) = R := fun h => by
            have hh := h1.out; have := hxc.out; have := E46.out; rw [if_neg (by omega), if_pos (by omega), if_neg h] at hh; exact hh
          have STEP := Lib.hid step
          clear no step
          by_cases hk0 : k = 0
          · have t0 : ((k : Int) == 0) = true := by simp; omega
            have K0 := Lib.hid hk0
            clear hk0
            go_wp2
            go_ret
            exact post4_no (NO.out (Or.inl (by rw [K0.out]; rfl))) _ fs hfl
          · have t0 : ((k : Int) == 0) = false := by simp; omega
            have K0 := Lib.hid hk0
            clear hk0
            by_cases hkn : k + 1 = s.size
            · have tn : ((k : Int) == (s.size : Int) - 1) = true := by simp; omega
              have KN := Lib.hid hkn
              clear hkn
              go_wp2
              go_ret
              exact post4_no (NO.out (Or.inr (Or.inl (List.drop_of_length_le (by have := KN.out; simp; omega))))) _ fs hfl
            · have tn : ((k : Int) == (s.size : Int) - 1) = false := by simp; omega
              have KN := Lib.hid hkn
              clear hkn
              have hk1 : k - 1 < s.size := by omega
              have k1 : 1 ≤ k := by have := K0.out; omega
              obtain ⟨c', hc'⟩ : ∃ c', s[k - 1]'hk1 = c' := ⟨_, rfl⟩
              have hpr : prevOf s.data.toList k = some c' := by
                have := K0.out
                simp only [prevOf, this, if_false]
                rw [List.getElem?_eq_getElem (by simpa using hk1), ← hc']; rfl
              have HPR := Lib.hid hpr
              clear hpr
              obtain ⟨y, hy⟩ : ∃ y : Int, (c'.toNat : Int) = y := ⟨_, rfl⟩
              have HY := Lib.hid hy
              replace hy : ((s[k - 1]'hk1).toNat : Int) = y := by rw [hc']; exact hy
              clear hc'
              by_cases hy46 : y = 46
              · have ty : (y == 46) = true := by simp; omega
                have Y46 := Lib.hid hy46
                clear hy46
                go_wp2
                go_ret
                exact post4_no (NO.out (Or.inr (Or.inr (by rw [HPR.out]; have := HY.out; have := Y46.out; congr 1; apply UInt8.toNat_inj.1; show c'.toNat = 46; omega)))) _ fs hfl
              · have ty : (y == 46) = false := by simp; omega
                have Y46 := Lib.hid hy46
                clear hy46
                have STEP2 := Lib.hid (STEP.out (by
                  rw [HPR.out]
                  rintro (h | h | h)
                  · cases h
                  · have h2 := congrArg List.length h
                    have := KN.out
                    simp at h2
                    omega
                  · have := congrArg (·.map UInt8.toNat) h
                    have h2 : c'.toNat = 46 := by simpa using this
                    exact Y46.out (by have := HY.out; omega)))
                by_cases hp3 : p = 3
                · have tp : ((p : Int) == 3) = true := by simp; omega
                  have P3 := Lib.hid hp3
                  clear hp3
                  go_wp2
                  go_ret
                  exact post4_no (by rw [← STEP2.out, if_pos P3.out]) _ fs hfl
                · have tp : ((p : Int) == 3) = false := by simp; omega
                  have P3 := Lib.hid hp3
                  clear hp3
                  have cp := put_cell (w := w) (l := fs) (T := T) hlt p (by rw [hfl]; omega)
                  go_wp2
                  refine ⟨⟨k + 1, 0, p + 1, 0, fs.set p v, by omega, rfl, by go_num, rfl, by go_num, by omega, by have := P3.out; omega, by omega, by simp [hfl], put_set hlt p v, Lib.hid ?_⟩, by simp [intOf]; omega⟩
                  rw [← STEP2.out, if_neg P3.out]
        · have t46 : (x == 46) = false := by simp; omega
          have n46 := Lib.hid h46
          clear h46
          go_wp2
          go_ret
          exact post4_no (by rw [← h1.out]; have := hxc.out; have := n46.out; rw [if_neg (by omega), if_neg (by omega)]) _ fs hfl
    · have hke : s.data.toList.drop k = [] := List.drop_of_length_le (by simp; omega)
      have h1 := H.out
      rw [hke, p4] at h1
      have H1 := Lib.hid h1
      clear h1 hke H
      by_cases hp3 : p < 3
      · go_wp2
        go_ret
        exact post4_no (by rw [← H1.out, if_pos hp3]) _ fs hfl
      · have cp := put_cell (w := w) (l := fs) (T := T) hlt 3 (by rw [hfl]; omega)
        go_wp2
        go_ret
        rw [← H1.out, if_neg hp3]
        exact ⟨rfl, by simp [hfl], (put_set hlt 3 v).symm⟩
end Go.Proofs.YtpemdpfageikfaaGreatDoor.R
/- parseIPv4; what ParseAddr gives for a text with one colon at most. -/
namespace Go.Proofs.YtpemdpfageikfaaGreatDoor.R
open Go.RowKit Go.Proofs.YtpemdpfageikfaaGreatDoorW.PrintWords Go.Proofs.YtpemdpfageikfaaGreatDoorW.PrintLast Go.Proofs.YtpemdpfageikfaaGreatDoorW.PrintMore

/-- Numbers of a byte each. -/
def Byt (l : List Int) : Prop := ∀ x ∈ l, 0 ≤ x ∧ x ≤ 255
theorem Byt.set {l : List Int} (h : Byt l) (k : Nat) (v : Nat) (hv : v ≤ 255) : Byt (l.set k v) := by
  intro x hx
  rcases List.mem_or_eq_of_mem_set hx with h1 | rfl
  · exact h x h1
  · omega
theorem p4_byt : ∀ (l : List UInt8) (prev : Option UInt8) (v p d : Nat) (fs r : List Int), v ≤ 255 → Byt fs → fs.length = 4 → p4 l prev v p d fs = some r → Byt r ∧ r.length = 4
  | [], prev, v, p, d, fs, r, hv, hf, hl, h => by
    rw [p4] at h
    split at h
    · cases h
    · cases h; exact ⟨hf.set 3 v hv, by simp [hl]⟩
  | c :: l, prev, v, p, d, fs, r, hv, hf, hl, h => by
    rw [p4] at h
    split at h
    · split at h
      · cases h
      · split at h
        · cases h
        · exact p4_byt l _ _ _ _ _ r (by omega) hf hl h
    · split at h
      · split at h
        · cases h
        · split at h
          · cases h
          · exact p4_byt l _ _ _ _ _ r (by omega) (hf.set p v hv) (by simp [hl]) h
      · cases h
/-- The four fields of a text. -/
def four (l : List UInt8) : Option (List Int) := p4 l none 0 0 0 [0, 0, 0, 0]
theorem four_byt {l : List UInt8} {r : List Int} (h : four l = some r) : Byt r ∧ r.length = 4 := p4_byt l none 0 0 0 _ r (by omega) (by intro x hx; simp at hx; omega) rfl h

/-- An address: of 128 bits or of 32, its high and its low half. -/
def adVal (p4 p6 : Addr) : Bool × Int × Int → Value
  | (v6, hi, lo) => .agg #[.int .u64 hi, .int .u64 lo, .pointer (some (bif v6 then p6 else p4))]
def lo4of (fs : List Int) : Int := 281470681743360 + fs.getD 0 0 * 16777216 + fs.getD 1 0 * 65536 + fs.getD 2 0 * 256 + fs.getD 3 0
/-- What a reader of addresses leaves: the address, or an error. -/
def PostPA (p4 p6 : Addr) (w : World) (R : Option (Bool × Int × Int)) (e : Ending) (w' : World) : Prop :=
  Below w.heap.size w w' ∧ match R with
  | some a => e = .returned (.tuple #[adVal p4 p6 a, .nilIface])
  | none => ∃ ev, e = .returned (.tuple #[.agg #[.int .u64 0, .int .u64 0, .pointer none], .iface 145 ev])

theorem parse4_yes (s : ByteArray) (p4 p6 : Addr) (w : World) (hE : Env w p4 p6) (hs : s.size ≤ 140737488351232) (fs : List Int) (h : four s.data.toList = some fs) :
    Calls Tryz.prog 85 #[.string s] w (PostPA p4 p6 w (some (false, 0, lo4of fs))) := by
  obtain ⟨hb, hl⟩ := four_byt h
  obtain ⟨a, b, c, d, rfl⟩ : ∃ a b c d, fs = [a, b, c, d] := by
    match fs, hl with
    | [a, b, c, d], _ => exact ⟨a, b, c, d, rfl⟩
  have cv := Lib.hid (fun (wx : World) (fb : Nat) (hlt : fb < wx.heap.size) (hw : wx = put wx fb [0, 0, 0, 0] 146) => v4fields s fb [0, 0, 0, 0] 146 wx hs hlt rfl hw _ h)
  have ca := Lib.hid (fun (wx : World) (hx : Below w.heap.size w wx) => addrFrom4 a b c d p4 p6 wx (hE.below hx) (hb a (by simp)) (hb b (by simp)) (hb c (by simp)) (hb d (by simp)))
  have h4 := Lib.hid h
  clear h hE hb
  go_enter Tryz.func85, Tryz.ntmps85
  go_wp2_with fail
  refine (cv.out _ (w.heap.size + 1) (by simp) (put_self (blk_last _ _ _ (by simp))).symm).mono ?_
  rintro e w1 ⟨rfl, -, rfl⟩
  rw [put_last _ (by simp), show (nums .u8 [a, b, c, d]).toArray = #[.int .u8 a, .int .u8 b, .int .u8 c, .int .u8 d] from rfl]
  go_wp2_with fail
  refine (ca.out _ (by go_grown)).mono ?_
  rintro e w1 ⟨rfl, hb⟩
  have hB := Lib.hid (blw (show Below w.heap.size w _ from by go_grown) hb)
  obtain ⟨cc, ff, -⟩ := after hb
  have k0 := cc w.heap.size 0 (by simp; omega)
  have k1 := cc w.heap.size 1 (by simp; omega)
  have k2 := cc w.heap.size 2 (by simp; omega)
  have f0 := ff w.heap.size 0 (by simp; omega)
  have f1 := ff w.heap.size 1 (by simp; omega)
  have f2 := ff w.heap.size 2 (by simp; omega)
  simp at k0 k1 k2 f0 f1 f2
  clear cc ff hb
  go_wp2
  refine bodyPost_ret (by simp [results, Tryz.results85, go_sem, k0, k1, k2]; try rfl) rfl ?_
  exact ⟨by have := hB.out; go_grown, rfl⟩
theorem parse4_no (s : ByteArray) (p4 p6 : Addr) (w : World) (hs : s.size ≤ 140737488351232) (h : four s.data.toList = none) :
    Calls Tryz.prog 85 #[.string s] w (PostPA p4 p6 w none) := by
  have cv := Lib.hid (fun (wx : World) (fb : Nat) (hlt : fb < wx.heap.size) (hw : wx = put wx fb [0, 0, 0, 0] 146) => v4fields s fb [0, 0, 0, 0] 146 wx hs hlt rfl hw _ h)
  clear h
  go_enter Tryz.func85, Tryz.ntmps85
  go_wp2_with fail
  refine (cv.out _ (w.heap.size + 1) (by simp) (put_self (blk_last _ _ _ (by simp))).symm).mono ?_
  rintro e w1 ⟨ev, fs, rfl, hl, rfl⟩
  rw [put_last _ (by simp)]
  go_wp2
  go_returns
  exact ⟨by go_grown, ev, rfl⟩
end Go.Proofs.YtpemdpfageikfaaGreatDoor.R
/- What parseIPv6 computes, as a plain function, ahead of its walk. -/
namespace Go.Proofs.YtpemdpfageikfaaGreatDoor.R
open Go.RowKit Go.Proofs.YtpemdpfageikfaaGreatDoorW.PrintWords Go.Proofs.YtpemdpfageikfaaGreatDoorW.PrintLast Go.Proofs.YtpemdpfageikfaaGreatDoorW.PrintMore

/-- The number of a hexadecimal digit. -/
def dig (c : Nat) : Option Nat := if 48 ≤ c ∧ c ≤ 57 then some (c - 48) else if 97 ≤ c ∧ c ≤ 102 then some (c - 87) else if 65 ≤ c ∧ c ≤ 70 then some (c - 55) else none
/-- The digits at a text's beginning: how many, and their number. -/
def hx : List UInt8 → Nat → Nat → Option (Nat × Nat)
  | [], off, acc => some (off, acc)
  | c :: r, off, acc => match dig c.toNat with
    | none => some (off, acc)
    | some d => if 3 < off then none else if 65535 < acc * 16 + d then none else hx r (off + 1) (acc * 16 + d)
/-- The groups of a text, in which there is no '::' and no point. -/
def g6 : Nat → List UInt8 → List Int → Option (List Int)
  | 0, _, _ => none
  | k + 1, s, bs => match hx s 0 0 with
    | none => none
    | some (off, acc) => if off = 0 then none else match s.drop off with
      | [] => if k = 0 then some ((bs.set (14 - 2 * k) ((acc / 256 : Nat) : Int)).set (15 - 2 * k) ((acc % 256 : Nat) : Int)) else none
      | c :: r => if c.toNat = 58 then (if r = [] then none else g6 k r ((bs.set (14 - 2 * k) ((acc / 256 : Nat) : Int)).set (15 - 2 * k) ((acc % 256 : Nat) : Int))) else none
/-- Do two colons stand side by side? -/
def dbl : List UInt8 → Bool
  | a :: b :: r => (a.toNat == 58 && b.toNat == 58) || dbl (b :: r)
  | _ => false
/-- No point, or so near the beginning that it is wrong. -/
def Okp (i : Nat) (l : List UInt8) : Prop := (∀ c ∈ l, c.toNat ≠ 46) ∨ i + 2 * l.count 58 ≤ 2
theorem dbl_drop : ∀ (l : List UInt8) (n : Nat), dbl l = false → dbl (l.drop n) = false
  | l, 0, h => h
  | [], n + 1, h => by simp [dbl]
  | [a], n + 1, h => by simp [dbl]
  | a :: b :: r, n + 1, h => by
    simp only [dbl, Bool.or_eq_false_iff] at h
    exact dbl_drop (b :: r) n h.2
theorem Okp.drop {i : Nat} {l : List UInt8} (h : Okp i l) (n : Nat) : Okp i (l.drop n) := by
  rcases h with h | h
  · exact Or.inl fun c hc => h c (List.mem_of_mem_drop hc)
  · refine Or.inr ?_
    have := (List.drop_sublist n l).count_le (58 : UInt8)
    omega
theorem Okp.next {i : Nat} {l r : List UInt8} {c : UInt8} (h : Okp i l) (hl : l = c :: r) (hc : c.toNat = 58) : Okp (i + 2) r := by
  subst hl
  rcases h with h | h
  · exact Or.inl fun d hd => h d (by simp [hd])
  · refine Or.inr ?_
    have : c = 58 := UInt8.toNat_inj.1 hc
    subst this
    simp at h
    omega
theorem Okp.pt {i : Nat} {l r : List UInt8} {c : UInt8} (h : Okp i l) (hl : l = c :: r) (hc : c.toNat = 46) : i ≤ 2 := by
  subst hl
  rcases h with h | h
  · exact absurd hc (h c (by simp))
  · omega
theorem g6_few : ∀ (k : Nat) (l : List UInt8) (bs : List Int), 16 - 2 * k + 2 * l.count 58 ≤ 2 → 2 ≤ k → k ≤ 8 → g6 k l bs = none
  | 0, _, _, _, h, _ => by omega
  | k + 1, l, bs, h, h2, h8 => by
    unfold g6
    split
    · rfl
    · split
      · rfl
      · split
        · rw [if_neg (by omega)]
        · rename_i off acc _ _ _ c r hr
          split
          · split
            · rfl
            · rename_i hc _
              have hs := (List.drop_sublist off l).count_le (58 : UInt8)
              have : c = 58 := UInt8.toNat_inj.1 hc
              subst this
              rw [hr] at hs
              simp at hs
              exact g6_few k r _ (by omega) (by omega) (by omega)
          · rfl
theorem g6_len : ∀ (k : Nat) (l : List UInt8) (bs r : List Int), bs.length = 16 → Byt bs → g6 k l bs = some r → r.length = 16 ∧ Byt r
  | 0, _, _, _, _, _, h => by cases h
  | k + 1, l, bs, r, hl, hb, h => by
    have H : ∀ acc : Nat, acc ≤ 65535 → Byt ((bs.set (14 - 2 * k) ((acc / 256 : Nat) : Int)).set (15 - 2 * k) ((acc % 256 : Nat) : Int)) := fun acc ha => (hb.set _ _ (by omega)).set _ _ (by omega)
    unfold g6 at h
    split at h
    · cases h
    · rename_i off acc hx0
      split at h
      · cases h
      · have ha : acc ≤ 65535 := by
          have : ∀ (l : List UInt8) (o a o' a' : Nat), a ≤ 65535 → hx l o a = some (o', a') → a' ≤ 65535 := by
            intro l
            induction l with
            | nil => intro o a o' a' h0 h1; simp [hx] at h1; omega
            | cons c l ih =>
              intro o a o' a' h0 h1
              rw [hx] at h1
              split at h1
              · simp at h1; omega
              · split at h1
                · cases h1
                · split at h1
                  · cases h1
                  · exact ih _ _ _ _ (by omega) h1
          exact this _ _ _ _ _ (by omega) hx0
        split at h
        · split at h
          · cases h; exact ⟨by simp [hl], H acc ha⟩
          · cases h
        · split at h
          · split at h
            · cases h
            · exact g6_len k _ _ r (by simp [hl]) (H acc ha) h
          · cases h
theorem ex_list (s : ByteArray) (a : Nat) : (s.extract a s.size).data.toList = s.data.toList.drop a := by
  have e : (s.extract a s.size).data = s.data.extract a s.size := by simp
  rw [e, Array.toList_extract]
  simp [List.take_of_length_le]
theorem ex_list0 (s : ByteArray) (b : Nat) : (s.extract 0 b).data.toList = s.data.toList.take b := by
  have e : (s.extract 0 b).data = s.data.extract 0 b := by simp
  rw [e, Array.toList_extract]
  simp
theorem put_below {n b : Nat} {w W : World} {l : List Int} {T : TypeId} (h : Below n w W) (hb : n ≤ b) : Below n w (put W b l T) :=
  h.trans ⟨rfl, rfl, rfl, by rw [put_size]; exact Nat.le_refl _, fun k hk => put_other (by omega)⟩
theorem len_list (s : ByteArray) : s.data.toList.length = s.size := rfl
end Go.Proofs.YtpemdpfageikfaaGreatDoor.R
/- ParseAddr, by what its two readers do. -/
namespace Go.Proofs.YtpemdpfageikfaaGreatDoor.R
open Go.RowKit Go.Proofs.YtpemdpfageikfaaGreatDoorW.PrintWords Go.Proofs.YtpemdpfageikfaaGreatDoorW.PrintLast Go.Proofs.YtpemdpfageikfaaGreatDoorW.PrintMore

theorem PostPA.form {p4 p6 : Addr} {w : World} {R : Option (Bool × Int × Int)} {e : Ending} {w' : World} (h : PostPA p4 p6 w R e w') :
    ∃ x y q E, e = .returned (.tuple #[.agg #[.int .u64 x, .int .u64 y, .pointer q], E]) := by
  obtain ⟨-, h⟩ := h
  cases R with
  | none => obtain ⟨ev, rfl⟩ := h; exact ⟨_, _, _, _, rfl⟩
  | some a => obtain ⟨v6, hi, lo⟩ := a; exact ⟨_, _, _, _, h⟩
theorem PostPA.turn {p4 p6 : Addr} {w w0 W' : World} {R : Option (Bool × Int × Int)} {e : Ending} {w' : World} (h : PostPA p4 p6 w R e w') (hb : Below w0.heap.size w0 W') : PostPA p4 p6 w0 R e W' := ⟨hb, h.2⟩

/-- The first byte of a text that is a point, a colon or a percent sign. -/
def sep (l : List UInt8) : Option UInt8 := l.find? fun c => c.toNat == 46 || c.toNat == 58 || c.toNat == 37
/-- Behind a call, three cells as they were. -/
theorem three {W w1 : World} {b : Nat} {x y z : Value} {T : TypeId} (hb : Below W.heap.size W w1) (h : W.heap[b]? = some (.cells #[x, y, z] T (0, 0))) :
    w1.cell? ⟨b, 0, none⟩ = some x ∧ w1.cell? ⟨b, 1, none⟩ = some y ∧ w1.cell? ⟨b, 2, none⟩ = some z ∧ w1.frozen? ⟨b, 0, none⟩ = false ∧ w1.frozen? ⟨b, 1, none⟩ = false ∧ w1.frozen? ⟨b, 2, none⟩ = false := by
  have h1 := (hb.block b (blk_lt' h)).trans h
  simp [World.cell?, World.frozen?, h1]

set_option maxHeartbeats 1000000 in
theorem parseAddr (s : ByteArray) (p4 p6 : Addr) (w : World) (hE : Env w p4 p6) (hs : s.size ≤ 140737488351232) (R : Option (Bool × Int × Int)) (F : Option UInt8) (hF : sep s.data.toList = F)
    (h46 : F = some 46 → ∀ wx, Env wx p4 p6 → Calls Tryz.prog 85 #[.string s] wx (PostPA p4 p6 wx R)) (h58 : F = some 58 → ∀ wx, Env wx p4 p6 → Calls Tryz.prog 86 #[.string s] wx (PostPA p4 p6 wx R)) (hno : F ≠ some 46 → F ≠ some 58 → R = none) :
    Calls Tryz.prog 53 #[.string s] w (PostPA p4 p6 w R) := by
  have HF := Lib.hid hF
  have H46 := Lib.hid h46
  have H58 := Lib.hid h58
  have HN := Lib.hid hno
  have HE := Lib.hid (hE.alloc)
  clear hF h46 h58 hno hE
  go_enter Tryz.func53, Tryz.ntmps53
  go_wp2
  go_loopw [4] (fun v4 wr => ∃ k : Nat, k ≤ s.size ∧ v4 = .int .i64 k ∧ wr = w.alloc (.cells #[.int .u64 0, .int .u64 0, .pointer none] 102) ∧ Hid (sep (s.data.toList.drop k) = F)) (fun i _ => s.size - (intOf i).toNat)
  case atStart => exact ⟨0, by omega, rfl, rfl, Lib.hid HF.out⟩
  case round =>
    obtain ⟨k, hk, rfl, rfl, H⟩ := hrel
    by_cases hks : k < s.size
    · obtain ⟨c, hc⟩ : ∃ c, s[k] = c := ⟨_, rfl⟩
      have hdr : s.data.toList.drop k = c :: s.data.toList.drop (k + 1) := by
        rw [List.drop_eq_getElem_cons (by simpa using hks), ← hc]; rfl
      have H1 := H.out
      rw [hdr, sep, List.find?_cons] at H1
      obtain ⟨x, hx⟩ : ∃ x : Int, (c.toNat : Int) = x := ⟨_, rfl⟩
      have hxc := Lib.hid hx
      replace hx : ((s[k]'hks).toNat : Int) = x := by rw [hc]; exact hx
      clear hc hdr H
      have h1 := Lib.hid H1
      clear H1
      by_cases d1 : x = 46
      · have t1 : (x == 46) = true := by simp [d1]
        have hf : F = some 46 := by
          have hh := h1.out
          have := hxc.out
          have e : c = 46 := UInt8.toNat_inj.1 (by show c.toNat = 46; omega)
          rw [e] at hh
          exact hh.symm
        have C := Lib.hid (H46.out hf)
        clear hf d1
        go_wp2_with fail
        refine (C.out _ (HE.out _)).mono ?_
        intro e w1 hp
        obtain ⟨x', y', q', E', rfl⟩ := hp.form
        obtain ⟨k0, k1, k2, f0, f1, f2⟩ := three hp.1 (heap_new _ _)
        have P := Lib.hid hp
        clear hp
        go_wp2
        refine bodyPost_ret (by simp [results, Tryz.results53, go_sem, k0, k1, k2]; try rfl) rfl ?_
        exact P.out.turn ((((blw (by go_grown) P.out.1).setCell (Nat.le_refl _) _).setCell (Nat.le_refl _) _).setCell (Nat.le_refl _) _)
      · have t1 : (x == 46) = false := by simp [d1]
        by_cases d2 : x = 58
        · have t2 : (x == 58) = true := by simp [d2]
          have hf : F = some 58 := by
            have hh := h1.out
            have := hxc.out
            have e : c = 58 := UInt8.toNat_inj.1 (by show c.toNat = 58; omega)
            rw [e] at hh
            exact hh.symm
          have C := Lib.hid (H58.out hf)
          clear hf d1 d2
          go_wp2_with fail
          refine (C.out _ (HE.out _)).mono ?_
          intro e w1 hp
          obtain ⟨x', y', q', E', rfl⟩ := hp.form
          obtain ⟨k0, k1, k2, f0, f1, f2⟩ := three hp.1 (heap_new _ _)
          have P := Lib.hid hp
          clear hp
          go_wp2
          refine bodyPost_ret (by simp [results, Tryz.results53, go_sem, k0, k1, k2]; try rfl) rfl ?_
          exact P.out.turn ((((blw (by go_grown) P.out.1).setCell (Nat.le_refl _) _).setCell (Nat.le_refl _) _).setCell (Nat.le_refl _) _)
        · have t2 : (x == 58) = false := by simp [d2]
          by_cases d3 : x = 37
          · have t3 : (x == 37) = true := by simp [d3]
            have hR : R = none := by
              have hh := h1.out
              have := hxc.out
              have e : c = 37 := UInt8.toNat_inj.1 (by show c.toNat = 37; omega)
              rw [e] at hh
              exact HN.out (by rw [← hh]; show (some 37 : Option UInt8) ≠ some 46; decide) (by rw [← hh]; show (some 37 : Option UInt8) ≠ some 58; decide)
            have HR := Lib.hid hR
            clear hR d1 d2 d3
            go_wp2
            go_returns
            exact by rw [HR.out]; exact ⟨by go_grown, _, rfl⟩
          · have t3 : (x == 37) = false := by simp [d3]
            have nx := Lib.hid (show c.toNat ≠ 46 ∧ c.toNat ≠ 58 ∧ c.toNat ≠ 37 from by have := hxc.out; omega)
            clear d1 d2 d3
            go_wp2
            refine ⟨⟨k + 1, by omega, by go_num, by trivial, Lib.hid ?_⟩, by simp [intOf]; omega⟩
            have hh := h1.out
            obtain ⟨n1, n2, n3⟩ := nx.out
            rw [show (c.toNat == 46 || c.toNat == 58 || c.toNat == 37) = false from by simp [n1, n2, n3]] at hh
            exact hh
    · have hke : s.data.toList.drop k = [] := List.drop_of_length_le (by simp; omega)
      have hR : R = none := by
        have hh := H.out
        rw [hke] at hh
        exact HN.out (by rw [← hh]; decide) (by rw [← hh]; decide)
      have HR := Lib.hid hR
      clear hR hke
      go_wp2
      go_returns
      exact by rw [HR.out]; exact ⟨by go_grown, _, rfl⟩
end Go.Proofs.YtpemdpfageikfaaGreatDoor.R
