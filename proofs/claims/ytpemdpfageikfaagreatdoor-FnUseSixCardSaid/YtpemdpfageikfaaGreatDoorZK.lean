/- The reference's Lower and Uses; the body of FnUseAny. -/
import Derived.Test.YtpemdpfageikfaaGreatDoorZH
import Derived.Test.YtpemdpfageikfaaGreatDoorZQf
import Derived.Test.YtpemdpfageikfaaGreatDoorZJ
set_option linter.unusedVariables false
set_option linter.unusedSimpArgs false
/- spec.Lower. -/
namespace Go.Proofs.YtpemdpfageikfaaGreatDoor.R
open Go.RowKit Go.Proofs.YtpemdpfageikfaaGreatDoorW.PrintWords Go.Proofs.YtpemdpfageikfaaGreatDoorW.PrintLast Go.Proofs.YtpemdpfageikfaaGreatDoorW.PrintMore

/-- A byte as a small letter, as a number. -/
def lowN (x : Int) : Int := if 65 ≤ x ∧ x ≤ 90 then x + 32 else x
def byteAt (s : ByteArray) (j : Nat) : Int := ((s.data.toList.getD j 0).toNat : Int)
def lowTo (s : ByteArray) (k j : Nat) : Int := if j < k then lowN (byteAt s j) else byteAt s j
theorem byteAt_range (s : ByteArray) (j : Nat) : 0 ≤ byteAt s j ∧ byteAt s j ≤ 255 := by
  have := (s.data.toList.getD j 0).toNat_lt
  unfold byteAt
  omega
def LowAt (w : World) (b N : Nat) (s : ByteArray) (k : Nat) : Prop := ∃ cs, w.heap[b]? = some (.cells cs 5 (N, N + 1)) ∧ s.size ≤ N ∧ ∀ j, j < s.size → cs[j]? = some (.int .u8 (lowTo s k j))
theorem LowAt.cell {w : World} {b N : Nat} {s : ByteArray} {k : Nat} (h : LowAt w b N s k) (j : Nat) (hj : j < s.size) : w.cell? ⟨b, j, none⟩ = some (.int .u8 (lowTo s k j)) ∧ w.frozen? ⟨b, j, none⟩ = false := by
  obtain ⟨cs, h1, h2, h3⟩ := h
  refine ⟨?_, ?_⟩
  · simp only [World.cell?, h1]
    simpa using h3 j hj
  · simp [World.frozen?, h1]
    omega
theorem LowAt.step {w : World} {b N : Nat} {s : ByteArray} {k : Nat} (h : LowAt w b N s k) (v : Int) (hv : v = lowN (byteAt s k)) : LowAt (w.setCell ⟨b, k, none⟩ (.int .u8 v)) b N s (k + 1) := by
  obtain ⟨cs, h1, h2, h3⟩ := h
  refine ⟨_, heap_setCell_same h1 _, h2, fun j hj => ?_⟩
  by_cases e : k = j
  · subst e
    have hlt : k < cs.size := by
      have := h3 k hj
      exact (Array.getElem?_eq_some_iff.1 this).1
    rw [Array.getElem?_setIfInBounds_self]
    simp [hlt, lowTo, hv]
  · rw [Array.getElem?_setIfInBounds_ne e, h3 j hj]
    unfold lowTo
    by_cases h5 : j < k
    · rw [if_pos h5, if_pos (by omega)]
    · rw [if_neg h5, if_neg (by omega)]
theorem LowAt.skip {w : World} {b N : Nat} {s : ByteArray} {k : Nat} (h : LowAt w b N s k) (hv : lowN (byteAt s k) = byteAt s k) : LowAt w b N s (k + 1) := by
  obtain ⟨cs, h1, h2, h3⟩ := h
  refine ⟨cs, h1, h2, fun j hj => ?_⟩
  rw [h3 j hj]
  unfold lowTo
  by_cases h5 : j < k
  · rw [if_pos h5, if_pos (by omega)]
  · rw [if_neg h5]
    by_cases h6 : j < k + 1
    · obtain rfl : j = k := by omega
      rw [if_pos h6, hv]
    · rw [if_neg h6]
theorem lowAt_start (w : World) (s : ByteArray) : LowAt (Lib.bytesWorld w 5 s) w.heap.size (Lib.bytesCells w 5 s).size s 0 := by
  refine ⟨_, Lib.bytesWorld_at_new w 5 s, by simp [Lib.bytesCells], fun j hj => ?_⟩
  have := Lib.bytesWorld_cell w 5 s j hj
  simp only [World.cell?, Lib.bytesWorld_at_new] at this
  simpa [lowTo, byteAt] using this
/-- The text in small letters. -/
def lowS (s : ByteArray) : ByteArray := ⟨(Lib.toLowerA s.data.toList).toArray⟩
theorem LowAt.C {w : World} {b N : Nat} {s : ByteArray} (h : LowAt w b N s s.size) (hs : s.size ≤ 140737488351232) : Kd.C (Kd.int .u8) w (some ⟨b, 0, none⟩) s.size ((List.range s.size).map fun j => lowN (byteAt s j)) := by
  refine ⟨by simp, by omega, fun _ => ⟨_, rfl, fun j p hj => ⟨[.int .u8 p], rfl, rfl, fun i u hi => ?_⟩⟩⟩
  obtain ⟨rfl, rfl⟩ : i = 0 ∧ u = .int .u8 p := by
    cases i with
    | zero => simpa [eq_comm] using hi
    | succ i => simp at hi
  simp only [List.getElem?_map, List.getElem?_range] at hj
  have hj2 : j < s.size := by
    rcases Nat.lt_or_ge j s.size with h | h
    · exact h
    · rw [List.getElem?_eq_none (by simpa using h)] at hj; cases hj
  rw [List.getElem?_range hj2] at hj
  have hp : lowN (byteAt s j) = p := by simpa using hj
  have e : ((⟨b, 0, none⟩ : Addr).add (j * (Kd.int .u8).sz + 0)) = ⟨b, j, none⟩ := by
    show (⟨b, 0, none⟩ : Addr).add (j * 1 + 0) = _
    rw [add_place]; simp
  rw [e, (h.cell j hj2).1, ← hp]
  simp [lowTo, hj2]
theorem low_str (s : ByteArray) : strOfNums ((List.range s.size).map fun j => lowN (byteAt s j)) = lowS s := by
  apply ByteArray.ext
  simp only [strOfNums, lowS]
  congr 1
  apply List.ext_getElem?
  intro j
  simp only [List.getElem?_map, Lib.toLowerA]
  by_cases hj : j < s.size
  · rw [List.getElem?_range hj]
    have hl : j < s.data.toList.length := hj
    rw [List.getElem?_eq_getElem hl]
    simp only [Option.map_some]
    congr 1
    have hb : byteAt s j = ((s.data.toList[j]'hl).toNat : Int) := by simp only [byteAt, List.getD]; rw [List.getElem?_eq_getElem hl]; rfl
    rw [hb]
    generalize s.data.toList[j] = c
    have h255 := c.toNat_lt
    unfold lowN Lib.lowerB
    by_cases h : 65 ≤ c.toNat ∧ c.toNat ≤ 90
    · have : Lib.isUpperB c = true := by simp [Lib.isUpperB, UInt8.le_iff_toNat_le]; omega
      rw [if_pos (by omega), this, if_pos rfl]
      apply UInt8.toNat_inj.1
      simp [UInt8.toNat_ofNat']
      omega
    · have : Lib.isUpperB c = false := by simp [Lib.isUpperB, UInt8.le_iff_toNat_le]; omega
      rw [if_neg (by omega), this]
      simp
  · rw [List.getElem?_eq_none (by simpa using hj), List.getElem?_eq_none (by simpa using hj)]
    rfl

set_option maxHeartbeats 1000000 in
theorem lower (s : ByteArray) (w : World) (hs : s.size ≤ 140737488351232) : Calls Tryz.prog 27 #[.string s] w fun e w' => e = .returned (.string (lowS s)) ∧ Below w.heap.size w w' := by
  have hconv := fun W => Lib.run_convert_string_bytes (P := Tryz.prog) W 9 27 5 s Tryz.underlying9 Tryz.underlying27 Tryz.underlying5
  have hst := lowAt_start w s
  have hbl := below_bytes (Below.refl w.heap.size w) (Nat.le_refl _) 5 s
  go_enter Tryz.func27, Tryz.ntmps27
  go_wp2
  generalize grownCap w s.size 0 5 = cap
  generalize Lib.bytesWorld w 5 s = W0 at hst hbl ⊢
  generalize (Lib.bytesCells w 5 s).size = N at hst
  have HC := Lib.hid (fun (W : World) (hl : LowAt W w.heap.size N s s.size) (c : Nat) => Kd.C_string (P := Tryz.prog) (src := 27) (dst := 9) (c := c) Tryz.underlying27 Tryz.underlying5 Tryz.underlying9 (hl.C hs))
  have HST := Lib.hid hst
  have HBL := Lib.hid hbl
  clear hconv hst hbl
  go_loopw [10] (fun v10 wr => ∃ k : Nat, k ≤ s.size ∧ v10 = .int .i64 k ∧ Hid (LowAt wr w.heap.size N s k) ∧ Hid (Below w.heap.size w wr)) (fun i _ => s.size - (intOf i).toNat)
  case atStart => exact ⟨0, by omega, rfl, HST, HBL⟩
  case round =>
    obtain ⟨k, hk, rfl, HL, HB⟩ := hrel
    by_cases hks : k < s.size
    · obtain ⟨k0, f0⟩ := HL.out.cell k hks
      obtain ⟨x0, x1⟩ := byteAt_range s k
      rw [show lowTo s k k = byteAt s k from by simp [lowTo]] at k0
      obtain ⟨x, hx⟩ : ∃ x, byteAt s k = x := ⟨_, rfl⟩
      rw [hx] at k0 x0 x1
      have HX := Lib.hid hx
      clear hx
      by_cases d1 : 65 ≤ x
      · by_cases d2 : x ≤ 90
        · go_wp2
          refine ⟨⟨k + 1, by omega, by go_num, Lib.hid (HL.out.step _ ?_), Lib.hid (HB.out.setCell (Nat.le_refl _) _)⟩, by simp [intOf]; omega⟩
          rw [HX.out, lowN, if_pos ⟨d1, d2⟩]
          first | omega | go_arith
        · go_wp2
          exact ⟨⟨k + 1, by omega, by go_num, Lib.hid (HL.out.skip (by rw [HX.out, lowN, if_neg (by omega)])), HB⟩, by simp [intOf]; omega⟩
      · go_wp2
        exact ⟨⟨k + 1, by omega, by go_num, Lib.hid (HL.out.skip (by rw [HX.out, lowN, if_neg (by omega)])), HB⟩, by simp [intOf]; omega⟩
    · obtain rfl : k = s.size := by omega
      have hc := fun c => HC.out wr HL.out c
      rw [low_str] at hc
      go_wp2
      go_ret
      exact ⟨rfl, HB.out⟩
end Go.Proofs.YtpemdpfageikfaaGreatDoor.R
/- spec.Uses. -/
namespace Go.Proofs.YtpemdpfageikfaaGreatDoor.R
open Go.RowKit Go.Proofs.YtpemdpfageikfaaGreatDoorW.PrintWords Go.Proofs.YtpemdpfageikfaaGreatDoorW.PrintLast Go.Proofs.YtpemdpfageikfaaGreatDoorW.PrintMore

theorem uses_empty (no : ByteArray) (w : World) : Calls Tryz.prog 13 #[.string no, .string ⟨#[]⟩] w fun e w' => e = .returned (.bool true) ∧ Below w.heap.size w w' := by
  go_enter Tryz.func13, Tryz.ntmps13
  go_wp2
  go_ret
  exact ⟨rfl, Below.refl _ _⟩
/-- No port, or more than one, or localhost. -/
theorem uses_no (no addr h p : ByteArray) (has : Bool) (n : Int) (k : Nat) (w : World) (h0 : addr.toList.isEmpty = false) (hc : Q.spec_Cut.f k addr 58 = some (h, p, has)) (hn : Q.spec_Count.f k p 58 = some n)
    (hbad : has = false ∨ (has = true ∧ 0 < n) ∨ (has = true ∧ n ≤ 0 ∧ (h.toList == [108, 111, 99, 97, 108, 104, 111, 115, 116]) = true)) :
    Calls Tryz.prog 13 #[.string no, .string addr] w fun e w' => e = .returned (.bool false) ∧ Below w.heap.size w w' := by
  have HC := Lib.hid (fun wx => Q.spec_Cut.calls k addr 58 h p has wx hc)
  have HN := Lib.hid (fun wx => Q.spec_Count.calls k p 58 n wx hn)
  clear hc hn
  rcases hbad with rfl | ⟨rfl, hb⟩ | ⟨rfl, hb, hl⟩
  · go_enter Tryz.func13, Tryz.ntmps13
    go_wp2_with (go_at_call 26; refine (HC.out _).mono ?_; rintro e w1 ⟨rfl, ⟨m, rfl⟩⟩)
    go_ret
    exact ⟨rfl, pw_below_drewN (Below.refl _ _) _⟩
  · go_enter Tryz.func13, Tryz.ntmps13
    go_wp2_with (first | (go_at_call 26; refine (HC.out _).mono ?_; rintro e w1 ⟨rfl, ⟨m, rfl⟩⟩) | (go_at_call 10; refine (HN.out _).mono ?_; rintro e w1 ⟨rfl, ⟨m, rfl⟩⟩))
    go_ret
    exact ⟨rfl, pw_below_drewN (Below.refl _ _) _⟩
  · have hb' : ¬ 0 < n := by omega
    go_enter Tryz.func13, Tryz.ntmps13
    go_wp2_with (first | (go_at_call 26; refine (HC.out _).mono ?_; rintro e w1 ⟨rfl, ⟨m, rfl⟩⟩) | (go_at_call 10; refine (HN.out _).mono ?_; rintro e w1 ⟨rfl, ⟨m, rfl⟩⟩))
    go_ret
    exact ⟨rfl, pw_below_drewN (Below.refl _ _) _⟩
end Go.Proofs.YtpemdpfageikfaaGreatDoor.R
/- spec.Uses, on. -/
namespace Go.Proofs.YtpemdpfageikfaaGreatDoor.R
open Go.RowKit Go.Proofs.YtpemdpfageikfaaGreatDoorW.PrintWords Go.Proofs.YtpemdpfageikfaaGreatDoorW.PrintLast Go.Proofs.YtpemdpfageikfaaGreatDoorW.PrintMore

/-- What the reference says of an entry, trimmed and in small letters. -/
inductive EntS (k : Nat) (name port : ByteArray) (A : Int) (isA : Bool) (q : ByteArray) : Bool → Prop
  | star (h : q = ⟨#[42]⟩) : EntS k name port A isA q true
  | empty (h : q = ⟨#[]⟩) : EntS k name port A isA q false
  | one (h1 : (q.toList == [42]) = false) (h2 : q.toList.isEmpty = false) (r : Bool) (h : Q.spec_target_isFor.f k name port A isA q = some r) : EntS k name port A isA q r
/-- The target. -/
abbrev tgtObj (name port : ByteArray) (A : Int) (isA : Bool) : Obj := .cells #[.string name, .string port, .int .u32 A, .bool isA] 46 (0, 0)
theorem four_cells {w : World} {b : Nat} {x y z u : Value} {T : TypeId} (h : w.heap[b]? = some (.cells #[x, y, z, u] T (0, 0))) :
    w.cell? ⟨b, 0, none⟩ = some x ∧ w.cell? ⟨b, 1, none⟩ = some y ∧ w.cell? ⟨b, 2, none⟩ = some z ∧ w.cell? ⟨b, 3, none⟩ = some u ∧ ∀ j, w.frozen? ⟨b, j, none⟩ = false := by
  simp [World.cell?, World.frozen?, h]
set_option maxHeartbeats 2000000 in
theorem uses_lb (no addr h p t : ByteArray) (n A : Int) (k : Nat) (w : World) (h0 : addr.toList.isEmpty = false) (hc : Q.spec_Cut.f k addr 58 = some (h, p, true)) (hn : Q.spec_Count.f k p 58 = some n) (hn0 : ¬ 0 < n)
    (hl : (h.toList == [108, 111, 99, 97, 108, 104, 111, 115, 116]) = false) (ht : Q.spec_Trimmed.f k h = some t) (hts : t.size ≤ 140737488351232) (hA : Q.spec_Address.f k h = some (A, true)) (hA0 : 0 ≤ A) (hA1 : A < 4294967296) (hlb : (A / 16777216 == 127) = true) :
    Calls Tryz.prog 13 #[.string no, .string addr] w fun e w' => e = .returned (.bool false) ∧ Below w.heap.size w w' := by
  have HC := Lib.hid (fun wx => Q.spec_Cut.calls k addr 58 h p true wx hc)
  have HN := Lib.hid (fun wx => Q.spec_Count.calls k p 58 n wx hn)
  have HT := Lib.hid (fun wx => Q.spec_Trimmed.calls k h t wx ht)
  have HLo := Lib.hid (fun wx => lower t wx hts)
  have HAd := Lib.hid (fun wx => Q.spec_Address.calls k h A true wx hA)
  clear hc hn ht hA
  generalize lowS t = nm at HLo
  go_enter Tryz.func13, Tryz.ntmps13
  go_wp2_with (first | (go_at_call 26; refine (HC.out _).mono ?_; rintro e w1 ⟨rfl, ⟨m, rfl⟩⟩) | (go_at_call 10; refine (HN.out _).mono ?_; rintro e w1 ⟨rfl, ⟨m, rfl⟩⟩) | (go_at_call 28; refine (HT.out _).mono ?_; rintro e w1 ⟨rfl, ⟨m, rfl⟩⟩))
  refine (HLo.out _).mono ?_
  rintro e w1 ⟨rfl, hb1⟩
  have HB1 := Lib.hid (blw (pw_below_drewN (Below.refl w.heap.size w) _) hb1)
  clear hb1
  go_wp2_with fail
  refine (HAd.out _).mono ?_
  rintro e w2 ⟨rfl, hb2⟩
  have HB2 := Lib.hid (blw (below_alloc HB1.out _) hb2)
  have hT2 := (hb2.block w1.heap.size (by simp)).trans (heap_new _ _)
  have hTw := Lib.hid HB1.out.size
  obtain ⟨c0, c1, c2, c3, fz⟩ := four_cells hT2
  have HT2 := Lib.hid hT2
  clear hb2 hT2
  go_upto_region 8 with fail
  generalize w1.heap.size = T at HT2 hTw c0 c1 c2 c3 fz ⊢
  have hT3 : ((w2.setCell ⟨T, 2, none⟩ (.int .u32 A)).setCell ⟨T, 3, none⟩ (.bool true)).heap[T]? = some (tgtObj nm p A true) := by
    rw [heap_setCell_same (heap_setCell_same HT2.out _)]
    rfl
  have HB3 := Lib.hid ((HB2.out.setCell (p := ⟨T, 2, none⟩) hTw.out (.int .u32 A)).setCell (p := ⟨T, 3, none⟩) hTw.out (.bool true))
  generalize (w2.setCell ⟨T, 2, none⟩ (.int .u32 A)).setCell ⟨T, 3, none⟩ (.bool true) = w3 at hT3 HB3 ⊢
  clear c0 c1 c2 c3 fz HT2 HB2 HB1 HC HN HLo HAd
  obtain ⟨c0, c1, c2, c3, fz⟩ := four_cells hT3
  clear hT3
  go_wp2
  go_ret
  exact ⟨rfl, HB3.out⟩
set_option maxHeartbeats 2000000 in
theorem uses_go (no addr h p t : ByteArray) (n A : Int) (isA : Bool) (k : Nat) (w : World) (h0 : addr.toList.isEmpty = false) (hc : Q.spec_Cut.f k addr 58 = some (h, p, true)) (hn : Q.spec_Count.f k p 58 = some n) (hn0 : ¬ 0 < n)
    (hl : (h.toList == [108, 111, 99, 97, 108, 104, 111, 115, 116]) = false) (ht : Q.spec_Trimmed.f k h = some t) (hts : t.size ≤ 140737488351232) (hA : Q.spec_Address.f k h = some (A, isA)) (hA0 : 0 ≤ A) (hA1 : A < 4294967296) (hlb : (isA && A / 16777216 == 127) = false)
    (es : List ByteArray) (hsp : Q.spec_Split.f k no 44 = some es) (hne : 0 < es.length) (hes : es.length ≤ 4294967296) (hits : List Bool)
    (hh : All2 (fun e b => ∃ te, Q.spec_Trimmed.f k e = some te ∧ te.size ≤ 140737488351232 ∧ EntS k (lowS t) p A isA (lowS te) b) es hits) :
    Calls Tryz.prog 13 #[.string no, .string addr] w fun e w' => e = .returned (.bool (!(hits.any id))) ∧ Below w.heap.size w w' := by
  have HC := Lib.hid (fun wx => Q.spec_Cut.calls k addr 58 h p true wx hc)
  have HN := Lib.hid (fun wx => Q.spec_Count.calls k p 58 n wx hn)
  have HT := Lib.hid (fun wx => Q.spec_Trimmed.calls k h t wx ht)
  have HLo := Lib.hid (fun wx => lower t wx hts)
  have HAd := Lib.hid (fun wx => Q.spec_Address.calls k h A isA wx hA)
  have HS := Lib.hid (fun wx => Q.spec_Split.calls k no 44 es wx hsp)
  have HH := Lib.hid hh
  clear hc hn ht hA hsp hh
  generalize lowS t = nm at HLo HH
  go_enter Tryz.func13, Tryz.ntmps13
  go_wp2_with (first | (go_at_call 26; refine (HC.out _).mono ?_; rintro e w1 ⟨rfl, ⟨m, rfl⟩⟩) | (go_at_call 10; refine (HN.out _).mono ?_; rintro e w1 ⟨rfl, ⟨m, rfl⟩⟩) | (go_at_call 28; refine (HT.out _).mono ?_; rintro e w1 ⟨rfl, ⟨m, rfl⟩⟩))
  refine (HLo.out _).mono ?_
  rintro e w1 ⟨rfl, hb1⟩
  have HB1 := Lib.hid (blw (pw_below_drewN (Below.refl w.heap.size w) _) hb1)
  clear hb1
  go_wp2_with fail
  refine (HAd.out _).mono ?_
  rintro e w2 ⟨rfl, hb2⟩
  have HB2 := Lib.hid (blw (below_alloc HB1.out _) hb2)
  have hT2 := (hb2.block w1.heap.size (by simp)).trans (heap_new _ _)
  have hTw := Lib.hid HB1.out.size
  obtain ⟨c0, c1, c2, c3, fz⟩ := four_cells hT2
  have HT2 := Lib.hid hT2
  clear hb2 hT2
  go_upto_region 8 with fail
  generalize w1.heap.size = T at HT2 hTw c0 c1 c2 c3 fz ⊢
  have hT3 : ((w2.setCell ⟨T, 2, none⟩ (.int .u32 A)).setCell ⟨T, 3, none⟩ (.bool isA)).heap[T]? = some (tgtObj nm p A isA) := by
    rw [heap_setCell_same (heap_setCell_same HT2.out _)]
    rfl
  have HB3 := Lib.hid ((HB2.out.setCell (p := ⟨T, 2, none⟩) hTw.out (.int .u32 A)).setCell (p := ⟨T, 3, none⟩) hTw.out (.bool isA))
  generalize (w2.setCell ⟨T, 2, none⟩ (.int .u32 A)).setCell ⟨T, 3, none⟩ (.bool isA) = w3 at hT3 HB3 ⊢
  clear c0 c1 c2 c3 fz HT2 HB2 HB1 HC HN HLo HAd
  obtain ⟨c0, c1, c2, c3, fz⟩ := four_cells hT3
  have HT3 := Lib.hid hT3
  clear hT3
  have tl : (isA = false) ∨ (isA = true ∧ (A / 16777216 == 127) = false) := by cases isA <;> simp_all
  have go : ∀ (v0 : Value) (w4 : World), True := fun _ _ => trivial
  clear go hlb
  rcases tl with rfl | ⟨rfl, tl⟩
  · go_wp2_with fail
    refine (HS.out _).mono ?_
    rintro e w4 ⟨v0, rfl, hr, hb⟩
    obtain ⟨A0, c, rfl⟩ := Kd.R_slice hr
    obtain ⟨-, -, h3⟩ := Kd.R_reads' hr
    obtain ⟨sb, so, rfl, hcell⟩ := str_cells h3 hne
    have HCELL := Lib.hid hcell
    have HB4 := Lib.hid (blw HB3.out hb)
    have HT4 := Lib.hid ((hb.block T (blk_lt' HT3.out)).trans HT3.out)
    clear hr hb h3 hcell c0 c1 c2 c3 fz HT3 HB3
    go_wp2
    go_loopw [53] (fun v53 wr => ∃ k' : Nat, k' ≤ es.length ∧ v53 = .int .i64 k' ∧ Hid (Below w4.heap.size w4 wr) ∧ Hid ((hits.drop k').any id = hits.any id)) (fun i _ => es.length - (intOf i).toNat)
    case atStart => exact ⟨0, by omega, rfl, Lib.hid (Below.refl _ _), Lib.hid rfl⟩
    case round =>
      obtain ⟨k', hk, rfl, HB, HG⟩ := hrel
      by_cases hkd : k' < es.length
      · have he := pw_cell_below HB.out (HCELL.out k' hkd)
        have hkh : k' < hits.length := by rw [← HH.out.len]; exact hkd
        obtain ⟨te, hte, htes, hent⟩ := HH.out.get k' hkd hkh
        have hdr : hits.drop k' = hits[k'] :: hits.drop (k' + 1) := List.drop_eq_getElem_cons hkh
        have hG := HG.out
        rw [hdr] at hG
        generalize hits[k'] = r at hent hG
        generalize es[k'] = e0 at he hte
        have HG1 := Lib.hid hG
        have HTe := Lib.hid (fun wx => Q.spec_Trimmed.calls k e0 te wx hte)
        have HLe := Lib.hid (fun wx => lower te wx htes)
        generalize lowS te = q at hent HLe
        have HENT := Lib.hid hent
        clear hG hdr HG hte hent
        go_wp2_with (go_at_call 28; refine (HTe.out _).mono ?_; rintro e w1 ⟨rfl, ⟨m, rfl⟩⟩)
        refine (HLe.out _).mono ?_
        rintro e w5 ⟨rfl, hb5⟩
        have HB5 := Lib.hid (blw (pw_below_drewN HB.out _) hb5)
        have hT5 := (HB5.out.block T (blk_lt' HT4.out)).trans HT4.out
        obtain ⟨c0, c1, c2, c3, fz⟩ := four_cells hT5
        clear hb5 hT5 he
        rcases HENT.out with h | h | ⟨h1, h2, _, h⟩
        · subst h
          go_wp2
          go_ret
          exact ⟨by rw [← HG1.out]; rfl, blw HB4.out HB5.out⟩
        · subst h
          go_wp2
          exact ⟨⟨k' + 1, by omega, by go_num, HB5, Lib.hid (by rw [← HG1.out]; rfl)⟩, by simp [intOf]; omega⟩
        · have HF := Lib.hid (fun wx => Q.spec_target_isFor.calls k nm p A false q r wx h)
          clear h
          cases r with
          | true =>
            go_wp2_with fail
            refine (HF.out _).mono ?_
            rintro e w6 ⟨rfl, hb6⟩
            have HB6 := Lib.hid (blw HB5.out hb6)
            clear hb6
            go_wp2
            go_ret
            exact ⟨by rw [← HG1.out]; rfl, blw HB4.out HB6.out⟩
          | false =>
            go_wp2_with fail
            refine (HF.out _).mono ?_
            rintro e w6 ⟨rfl, hb6⟩
            have HB6 := Lib.hid (blw HB5.out hb6)
            clear hb6
            go_wp2
            exact ⟨⟨k' + 1, by omega, by go_num, HB6, Lib.hid (by rw [← HG1.out]; rfl)⟩, by simp [intOf]; omega⟩
      · go_wp2
        go_ret
        exact ⟨by
          have h1 := HG.out
          rw [List.drop_of_length_le (by rw [← HH.out.len]; omega)] at h1
          rw [← h1]; rfl, blw HB4.out HB.out⟩
  · go_wp2_with fail
    refine (HS.out _).mono ?_
    rintro e w4 ⟨v0, rfl, hr, hb⟩
    obtain ⟨A0, c, rfl⟩ := Kd.R_slice hr
    obtain ⟨-, -, h3⟩ := Kd.R_reads' hr
    obtain ⟨sb, so, rfl, hcell⟩ := str_cells h3 hne
    have HCELL := Lib.hid hcell
    have HB4 := Lib.hid (blw HB3.out hb)
    have HT4 := Lib.hid ((hb.block T (blk_lt' HT3.out)).trans HT3.out)
    clear hr hb h3 hcell c0 c1 c2 c3 fz HT3 HB3
    go_wp2
    go_loopw [53] (fun v53 wr => ∃ k' : Nat, k' ≤ es.length ∧ v53 = .int .i64 k' ∧ Hid (Below w4.heap.size w4 wr) ∧ Hid ((hits.drop k').any id = hits.any id)) (fun i _ => es.length - (intOf i).toNat)
    case atStart => exact ⟨0, by omega, rfl, Lib.hid (Below.refl _ _), Lib.hid rfl⟩
    case round =>
      obtain ⟨k', hk, rfl, HB, HG⟩ := hrel
      by_cases hkd : k' < es.length
      · have he := pw_cell_below HB.out (HCELL.out k' hkd)
        have hkh : k' < hits.length := by rw [← HH.out.len]; exact hkd
        obtain ⟨te, hte, htes, hent⟩ := HH.out.get k' hkd hkh
        have hdr : hits.drop k' = hits[k'] :: hits.drop (k' + 1) := List.drop_eq_getElem_cons hkh
        have hG := HG.out
        rw [hdr] at hG
        generalize hits[k'] = r at hent hG
        generalize es[k'] = e0 at he hte
        have HG1 := Lib.hid hG
        have HTe := Lib.hid (fun wx => Q.spec_Trimmed.calls k e0 te wx hte)
        have HLe := Lib.hid (fun wx => lower te wx htes)
        generalize lowS te = q at hent HLe
        have HENT := Lib.hid hent
        clear hG hdr HG hte hent
        go_wp2_with (go_at_call 28; refine (HTe.out _).mono ?_; rintro e w1 ⟨rfl, ⟨m, rfl⟩⟩)
        refine (HLe.out _).mono ?_
        rintro e w5 ⟨rfl, hb5⟩
        have HB5 := Lib.hid (blw (pw_below_drewN HB.out _) hb5)
        have hT5 := (HB5.out.block T (blk_lt' HT4.out)).trans HT4.out
        obtain ⟨c0, c1, c2, c3, fz⟩ := four_cells hT5
        clear hb5 hT5 he
        rcases HENT.out with h | h | ⟨h1, h2, _, h⟩
        · subst h
          go_wp2
          go_ret
          exact ⟨by rw [← HG1.out]; rfl, blw HB4.out HB5.out⟩
        · subst h
          go_wp2
          exact ⟨⟨k' + 1, by omega, by go_num, HB5, Lib.hid (by rw [← HG1.out]; rfl)⟩, by simp [intOf]; omega⟩
        · have HF := Lib.hid (fun wx => Q.spec_target_isFor.calls k nm p A true q r wx h)
          clear h
          cases r with
          | true =>
            go_wp2_with fail
            refine (HF.out _).mono ?_
            rintro e w6 ⟨rfl, hb6⟩
            have HB6 := Lib.hid (blw HB5.out hb6)
            clear hb6
            go_wp2
            go_ret
            exact ⟨by rw [← HG1.out]; rfl, blw HB4.out HB6.out⟩
          | false =>
            go_wp2_with fail
            refine (HF.out _).mono ?_
            rintro e w6 ⟨rfl, hb6⟩
            have HB6 := Lib.hid (blw HB5.out hb6)
            clear hb6
            go_wp2
            exact ⟨⟨k' + 1, by omega, by go_num, HB6, Lib.hid (by rw [← HG1.out]; rfl)⟩, by simp [intOf]; omega⟩
      · go_wp2
        go_ret
        exact ⟨by
          have h1 := HG.out
          rw [List.drop_of_length_le (by rw [← HH.out.len]; omega)] at h1
          rw [← h1]; rfl, blw HB4.out HB.out⟩
end Go.Proofs.YtpemdpfageikfaaGreatDoor.R
/- The body of FnUseAny, by what it calls. -/
namespace Go.Proofs.YtpemdpfageikfaaGreatDoor.R
open Go.RowKit Go.Proofs.YtpemdpfageikfaaGreatDoorW.PrintWords Go.Proofs.YtpemdpfageikfaaGreatDoorW.PrintLast Go.Proofs.YtpemdpfageikfaaGreatDoorW.PrintMore

theorem any_big (no addr : ByteArray) (w : World) (h : 2147483647 < no.size ∨ 2147483647 < addr.size) : Calls Tryz.prog 3 #[.string no, .string addr] w (Says true w) := by
  by_cases h1 : 2147483647 < no.size
  · clear h
    go_enter Tryz.func3, Tryz.ntmps3
    go_wp2
    go_ret
    exact ⟨rfl, Below.refl _ _⟩
  · have h2 : 2147483647 < addr.size := by omega
    clear h
    go_enter Tryz.func3, Tryz.ntmps3
    go_wp2
    go_ret
    exact ⟨rfl, Below.refl _ _⟩
theorem any_body (no addr : ByteArray) (bS bA : Bool) (n1 n2 : Int) (k : Nat) (w : World) (h1 : no.size ≤ 2147483647) (h2 : addr.size ≤ 2147483647) (hS : Q.spec_IsSaid.f k no = some bS) (hA : Q.spec_IsASCII.f k addr = some bA)
    (hC1 : Q.spec_Count.f k addr 91 = some n1) (hC2 : Q.spec_Count.f k addr 93 = some n2) (r1 : 0 ≤ n1 ∧ n1 ≤ 2147483647) (r2 : 0 ≤ n2 ∧ n2 ≤ 2147483647) (hW : ∀ wx, Below w.heap.size w wx → Calls Tryz.prog 11 #[] wx (Says true wx))
    (hGo : bS = true → no.size ≤ 300 → bA = true → addr.size ≤ 300 → n1 + n2 = 0 → ∃ r, (∀ wx, Below w.heap.size w wx → Calls Tryz.prog 12 #[.string no, .string addr] wx (Says r wx)) ∧ ∀ wx, Below w.heap.size w wx → Calls Tryz.prog 13 #[.string no, .string addr] wx fun e w' => e = .returned (.bool r) ∧ Below wx.heap.size wx w') :
    Calls Tryz.prog 3 #[.string no, .string addr] w (Says true w) := by
  have HS := Lib.hid (fun wx => Q.spec_IsSaid.calls k no bS wx hS)
  have HA := Lib.hid (fun wx => Q.spec_IsASCII.calls k addr bA wx hA)
  have HC1 := Lib.hid (fun wx => Q.spec_Count.calls k addr 91 n1 wx hC1)
  have HC2 := Lib.hid (fun wx => Q.spec_Count.calls k addr 93 n2 wx hC2)
  have HW := Lib.hid hW
  have HG := Lib.hid hGo
  obtain ⟨n10, n11⟩ := r1
  obtain ⟨n20, n21⟩ := r2
  clear hS hA hC1 hC2 hW hGo
  cases bS with
  | false =>
    go_enter Tryz.func3, Tryz.ntmps3
    go_wp2_with fail
    refine (HS.out _).mono ?_
    rintro e w1 ⟨rfl, hb⟩
    have HB := Lib.hid hb
    clear hb
    go_wp2_with fail
    refine (HW.out _ HB.out).mono ?_
    rintro e w2 ⟨rfl, hb⟩
    have HB2 := Lib.hid (blw HB.out hb)
    clear hb
    go_wp2
    go_ret
    exact ⟨rfl, HB2.out⟩
  | true =>
    by_cases g1 : no.size ≤ 300
    · cases bA with
      | false =>
        go_enter Tryz.func3, Tryz.ntmps3
        go_wp2_with fail
        refine (HS.out _).mono ?_
        rintro e w1 ⟨rfl, hb⟩
        have HB := Lib.hid hb
        clear hb
        go_wp2_with (go_at_call 9; refine (HA.out _).mono ?_; rintro e w1 ⟨rfl, ⟨m, rfl⟩⟩)
        refine (HW.out _ (pw_below_drewN HB.out _)).mono ?_
        rintro e w2 ⟨rfl, hb⟩
        have HB2 := Lib.hid (blw (pw_below_drewN HB.out _) hb)
        clear hb
        go_wp2
        go_ret
        exact ⟨rfl, HB2.out⟩
      | true =>
        by_cases g2 : addr.size ≤ 300
        · by_cases g3 : n1 + n2 = 0
          · obtain ⟨r, hu, hv⟩ := HG.out rfl g1 rfl g2 g3
            have HU := Lib.hid hu
            have HV := Lib.hid hv
            clear hu hv HG
            go_enter Tryz.func3, Tryz.ntmps3
            go_wp2_with fail
            refine (HS.out _).mono ?_
            rintro e w1 ⟨rfl, hb⟩
            have HB := Lib.hid hb
            clear hb
            go_wp2_with (first | (go_at_call 9; refine (HA.out _).mono ?_; rintro e w1 ⟨rfl, ⟨m, rfl⟩⟩) | (go_at_call 10; (with_reducible refine (HC1.out _).mono ?_); rintro e w1 ⟨rfl, ⟨m, rfl⟩⟩) | (go_at_call 10; (with_reducible refine (HC2.out _).mono ?_); rintro e w1 ⟨rfl, ⟨m, rfl⟩⟩))
            refine (HW.out _ (pw_below_drewN HB.out _)).mono ?_
            rintro e w2 ⟨rfl, hb⟩
            have HB2 := Lib.hid (blw (pw_below_drewN HB.out _) hb)
            clear hb
            go_wp2_with fail
            refine (HU.out _ HB2.out).mono ?_
            rintro e w3 ⟨rfl, hb⟩
            have HB3 := Lib.hid (blw HB2.out hb)
            clear hb
            go_wp2_with fail
            refine (HV.out _ HB3.out).mono ?_
            rintro e w4 ⟨rfl, hb⟩
            have HB4 := Lib.hid (blw HB3.out hb)
            clear hb
            go_wp2
            go_ret
            exact ⟨by simp, HB4.out⟩
          · have g4 : 0 < n1 + n2 := by omega
            clear g3
            go_enter Tryz.func3, Tryz.ntmps3
            go_wp2_with fail
            refine (HS.out _).mono ?_
            rintro e w1 ⟨rfl, hb⟩
            have HB := Lib.hid hb
            clear hb
            go_wp2_with (first | (go_at_call 9; refine (HA.out _).mono ?_; rintro e w1 ⟨rfl, ⟨m, rfl⟩⟩) | (go_at_call 10; (with_reducible refine (HC1.out _).mono ?_); rintro e w1 ⟨rfl, ⟨m, rfl⟩⟩) | (go_at_call 10; (with_reducible refine (HC2.out _).mono ?_); rintro e w1 ⟨rfl, ⟨m, rfl⟩⟩))
            refine (HW.out _ (pw_below_drewN HB.out _)).mono ?_
            rintro e w2 ⟨rfl, hb⟩
            have HB2 := Lib.hid (blw (pw_below_drewN HB.out _) hb)
            clear hb
            go_wp2
            go_ret
            exact ⟨rfl, HB2.out⟩
        · go_enter Tryz.func3, Tryz.ntmps3
          go_wp2_with fail
          refine (HS.out _).mono ?_
          rintro e w1 ⟨rfl, hb⟩
          have HB := Lib.hid hb
          clear hb
          go_wp2_with (go_at_call 9; refine (HA.out _).mono ?_; rintro e w1 ⟨rfl, ⟨m, rfl⟩⟩)
          refine (HW.out _ (pw_below_drewN HB.out _)).mono ?_
          rintro e w2 ⟨rfl, hb⟩
          have HB2 := Lib.hid (blw (pw_below_drewN HB.out _) hb)
          clear hb
          go_wp2
          go_ret
          exact ⟨rfl, HB2.out⟩
    · go_enter Tryz.func3, Tryz.ntmps3
      go_wp2_with fail
      refine (HS.out _).mono ?_
      rintro e w1 ⟨rfl, hb⟩
      have HB := Lib.hid hb
      clear hb
      go_wp2_with fail
      refine (HW.out _ HB.out).mono ?_
      rintro e w2 ⟨rfl, hb⟩
      have HB2 := Lib.hid (blw HB.out hb)
      clear hb
      go_wp2
      go_ret
      exact ⟨rfl, HB2.out⟩
end Go.Proofs.YtpemdpfageikfaaGreatDoor.R
