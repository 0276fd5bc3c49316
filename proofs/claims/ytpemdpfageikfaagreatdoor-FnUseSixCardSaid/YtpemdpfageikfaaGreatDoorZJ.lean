/- useProxy: what the rules say; UseProxy. -/
import Derived.Test.YtpemdpfageikfaaGreatDoorZH
set_option linter.unusedVariables false
set_option linter.unusedSimpArgs false
/- What a rule answers for an address, and for a name. -/
namespace Go.Proofs.YtpemdpfageikfaaGreatDoor.R
open Go.RowKit Go.Proofs.YtpemdpfageikfaaGreatDoorW.PrintWords Go.Proofs.YtpemdpfageikfaaGreatDoorW.PrintLast Go.Proofs.YtpemdpfageikfaaGreatDoorW.PrintMore

/-- What a rule says of an address's bytes. -/
inductive Hit (ys : List Int) (port : ByteArray) : Mt → Bool → Prop
  | all : Hit ys port .all true
  | c44 (xs ms : List Int) (hy : ys.length = 4) : Hit ys port (.cidr 4 xs ms) (sameMasked 4 xs ms ys)
  | c66 (xs ms : List Int) (hy : ys.length = 16) (h1 : is4in6 xs = false) (h2 : is4in6 ys = false) : Hit ys port (.cidr 16 xs ms) (sameMasked 16 xs ms ys)
  | c46 (xs ms : List Int) (hy : ys.length = 16) (h2 : is4in6 ys = false) : Hit ys port (.cidr 4 xs ms) false
  | ip (l : List Int) (p : ByteArray) (r : Bool) (hl : l.length = 16) (h : Q.netcidr_IP_Equal.f 3 l ys = some r) : Hit ys port (.ip l p) (r && (p.toList.isEmpty || p.toList == port.toList))
  | dom (h p : ByteArray) (mh : Bool) : Hit ys port (.dom h p mh) false
theorem blk_cell {w : World} {b : Nat} {cs : Array Value} {T : TypeId} (h : w.heap[b]? = some (.cells cs T (0, 0))) (k : Nat) (v : Value) (hv : cs[k]? = some v) : w.cell? ⟨b, k, none⟩ = some v := by
  simp only [World.cell?, h]
  simpa using hv
theorem mask_C {w : World} {d L : Nat} {ms : List Int} (h : w.heap[d]? = some (.cells (nums .u8 ms).toArray 5 (0, 0))) (hl : ms.length = L) (hL : L ≤ 16) : Kd.C (Kd.int .u8) w (some ⟨d, 0, none⟩) L ms := by
  have := C_block h 0 L (by omega) (by omega)
  rwa [List.drop_zero, List.take_of_length_le (by omega)] at this
theorem hit_cidr {w : World} {g b o c d L s u t : Nat} {xs ms ys : List Int} {host port : ByteArray} {r : Bool} (hc : CidrAt w g b o c d L xs ms) (hy : Kd.C (Kd.int .u8) w (some ⟨s, u, none⟩) ys.length ys) (ht : ys.length ≤ t) (H : Hit ys port (.cidr L xs ms) r) :
    Calls Tryz.prog 180 #[.agg #[.pointer (some ⟨g, 0, none⟩)], .string host, .string port, .slice (some ⟨s, u, none⟩) ys.length t] w fun e w' => e = .returned (.bool r) ∧ Below w.heap.size w w' := by
  refine cidr_match g host port _ r w fun ob => ?_
  have hb := below_alloc (Below.refl w.heap.size w) ob
  have k0 := blk_cell ((hb.block g (blk_lt' hc.box)).trans hc.box) 0 _ rfl
  have k1 := blk_cell ((hb.block g (blk_lt' hc.box)).trans hc.box) 1 _ rfl
  have hx := Kd.C_below hc.ip hb
  have hy' := Kd.C_below hy hb
  have hd := (hb.block d (blk_lt' hc.mask)).trans hc.mask
  cases H with
  | c44 _ _ hl =>
    rw [hl] at hy' ht ⊢
    exact contains_4 g b o c d 0 4 s u t xs ms ys _ k0 k1 hx (mask_C hd hc.len (by omega)) hy' hc.le ht
  | c66 _ _ hl h1 h2 =>
    rw [hl] at hy' ht ⊢
    exact contains_16 g b o c d 0 16 s u t xs ms ys _ k0 k1 hx (mask_C hd hc.len (by omega)) hy' hc.le ht h1 h2
  | c46 _ _ hl h2 =>
    rw [hl] at hy' ht ⊢
    exact contains_46 g b o c d 0 4 s u t ys _ k0 k1 hy' ht h2
theorem hit_ip {w : World} {b s u t : Nat} {l ys : List Int} {p host port : ByteArray} {r : Bool} (hh : w.heap[b]? = some (.cells (nums .u8 l).toArray 28 (0, 0))) (hy : Kd.C (Kd.int .u8) w (some ⟨s, u, none⟩) ys.length ys) (ht : ys.length ≤ t) (H : Hit ys port (.ip l p) r) :
    Calls Tryz.prog 182 #[.agg #[.slice (some ⟨b, 0, none⟩) 16 16, .string p], .string host, .string port, .slice (some ⟨s, u, none⟩) ys.length t] w fun e w' => e = .returned (.bool r) ∧ Below w.heap.size w w' := by
  cases H with
  | ip _ _ r0 hl h =>
    refine ip_match _ 16 16 _ p host port r0 w fun ob => ?_
    have hb := below_alloc (Below.refl w.heap.size w) ob
    have h1 := C_block ((hb.block b (blk_lt' hh)).trans hh) 0 16 (by omega) (by omega)
    rw [List.drop_zero, List.take_of_length_le (by omega)] at h1
    have := Q.netcidr_IP_Equal.calls 3 (some ⟨b, 0, none⟩) 16 l (some ⟨s, u, none⟩) t ys r0 (w.alloc ob) (by rw [hl]; exact h1) (by omega) (Kd.C_below hy hb) ht h
    rw [hl] at this
    exact this
/-- What a rule says of a name. -/
inductive HitN (host port : ByteArray) : Mt → Bool → Prop
  | all : HitN host port .all true
  | dom (h p : ByteArray) (mh : Bool) (h1 : 1 ≤ h.size) : HitN host port (.dom h p mh) ((Lib.hasSuffix host.data.toList h.data.toList || (mh && (host.toList == (h.extract 1 h.size).toList))) && (p.toList.isEmpty || p.toList == port.toList))
theorem row_shape {w : World} {base : Nat} {ok : Nat → Prop} {v : Value} {ms : List Mt} (h : Rows w base ok v ms) :
    ∃ A c, v = .slice A ms.length c ∧ ∀ k (hk : k < ms.length), ∃ g u, A = some ⟨g, 0, none⟩ ∧ w.cell? ⟨g, k, none⟩ = some u ∧ MtAt w ok ms[k] u := by
  obtain ⟨vs, ⟨h1, h2⟩, h3⟩ := h
  rcases h2 with ⟨rfl, hn⟩ | ⟨g, cap, cur, rfl, hg, hh, hnc, hcm, hcs, htk⟩
  · refine ⟨none, 0, by rw [hn], fun k hk => by omega⟩
  · refine ⟨some ⟨g, 0, none⟩, cap, rfl, fun k hk => ?_⟩
    have hkv : k < vs.length := by rw [← h3.len]; exact hk
    refine ⟨g, vs[k], rfl, ?_, h3.get k hk hkv⟩
    refine blk_cell hh k _ ?_
    have e : (cur.toList.take (ms.length * 1))[k]? = vs[k]? := by rw [htk]
    rw [List.getElem?_take, if_pos (by omega), List.getElem?_eq_getElem hkv] at e
    rw [← Array.getElem?_toList]
    exact e
end Go.Proofs.YtpemdpfageikfaaGreatDoor.R
/- useProxy: what the rules of a list say of a host with a port. -/
namespace Go.Proofs.YtpemdpfageikfaaGreatDoor.R
open Go.RowKit Go.Proofs.YtpemdpfageikfaaGreatDoorW.PrintWords Go.Proofs.YtpemdpfageikfaaGreatDoorW.PrintLast Go.Proofs.YtpemdpfageikfaaGreatDoorW.PrintMore

/-- The bytes of an address as a host has them. -/
def ysOf (a : Bool × Int × Int) : List Int := bif a.1 then b16 a else bytes32 (a.2.2 % 4294967296)
def lbOf (a : Bool × Int × Int) : Bool := bif a.1 then b16 a == [0, 0, 0, 0, 0, 0, 0, 0, 0, 0, 0, 0, 0, 0, 0, 1] else (ysOf a).getD 0 0 == 127
theorem ysOf_len (a : Bool × Int × Int) : (ysOf a).length = lenOf a := by
  obtain ⟨v6, hi, lo⟩ := a
  cases v6 <;> simp [ysOf, lenOf, b16, bytes64, bytes32]
theorem asSlice_ad (a : Bool × Int × Int) (p4 p6 : Addr) (w : World) (hE : Env w p4 p6) (h1 : In64 a.2.1) (h2 : In64 a.2.2) :
    Calls Tryz.prog 54 #[.agg #[.int .u64 a.2.1, .int .u64 a.2.2, .pointer (some (bif a.1 then p6 else p4))]] w fun e w' => ∃ b T, w.heap.size ≤ b ∧ e = .returned (.slice (some ⟨b, 0, none⟩) (lenOf a) (lenOf a)) ∧ w'.heap[b]? = some (.cells (nums .u8 (ysOf a)).toArray T (0, 0)) ∧ Below w.heap.size w w' := by
  obtain ⟨v6, hi, lo⟩ := a
  cases v6
  · refine (asSlice_4 hi lo p4 p6 w hE h2.1 h2.2).mono ?_
    rintro e w' ⟨b, h3, rfl, h4, h5⟩
    exact ⟨b, 146, h3, rfl, h4, h5⟩
  · refine (asSlice_6 hi lo p4 p6 w hE h1.1 h1.2 h2.1 h2.2).mono ?_
    rintro e w' ⟨b, h3, rfl, h4, h5⟩
    exact ⟨b, 28, h3, rfl, h4, h5⟩
theorem isLoop_ad (a : Bool × Int × Int) (b : Nat) (T : TypeId) (w : World) (hb : w.heap[b]? = some (.cells (nums .u8 (ysOf a)).toArray T (0, 0))) (h6 : a.1 = true → is4in6 (b16 a) = false ∧ ∀ x ∈ b16 a, 0 ≤ x ∧ x ≤ 255) :
    Calls Tryz.prog 55 #[.slice (some ⟨b, 0, none⟩) (lenOf a) (lenOf a)] w fun e w' => e = .returned (.bool (lbOf a)) ∧ Below w.heap.size w w' := by
  have hC := C_block hb 0 (lenOf a) (by rw [ysOf_len]; omega) (by unfold lenOf; cases a.1 <;> simp)
  rw [List.drop_zero, List.take_of_length_le (by rw [ysOf_len]; omega)] at hC
  obtain ⟨v6, hi, lo⟩ := a
  cases v6
  · refine (isLoop_4 b 0 4 _ w (C_cell hC 0 (by simp [lenOf]))).mono ?_
    rintro e w' ⟨rfl, rfl⟩
    exact ⟨rfl, Below.refl _ _⟩
  · exact isLoop_16 b 0 16 (b16 (true, hi, lo)) w hC (by omega) (h6 rfl).2 (h6 rfl).1

theorem use_empty (cb : Nat) (w : World) : Calls Tryz.prog 35 #[.pointer (some ⟨cb, 0, none⟩), .string ⟨#[]⟩] w fun e w' => e = .returned (.bool true) ∧ Below w.heap.size w w' := by
  go_enter Tryz.func35, Tryz.ntmps35
  go_wp2
  go_ret
  exact ⟨rfl, Below.refl _ _⟩
theorem use_nohost (cb : Nat) (s : ByteArray) (w : World) (h0 : 0 < s.size) (hs : ∀ w, Calls Tryz.prog 49 #[.string s] w (NoHost w)) : Calls Tryz.prog 35 #[.pointer (some ⟨cb, 0, none⟩), .string s] w fun e w' => e = .returned (.bool false) ∧ Below w.heap.size w w' := by
  have HS := Lib.hid hs
  clear hs
  go_enter Tryz.func35, Tryz.ntmps35
  go_wp2_with fail
  refine (HS.out _).mono ?_
  rintro e w1 ⟨⟨ev, rfl⟩, hb⟩
  have HB := Lib.hid hb
  clear hb
  go_wp2
  go_ret
  exact ⟨rfl, HB.out⟩
theorem use_local (cb : Nat) (s p : ByteArray) (w : World) (h0 : 0 < s.size) (hs : ∀ w, Calls Tryz.prog 49 #[.string s] w (Host w ⟨#[108, 111, 99, 97, 108, 104, 111, 115, 116]⟩ p)) : Calls Tryz.prog 35 #[.pointer (some ⟨cb, 0, none⟩), .string s] w fun e w' => e = .returned (.bool false) ∧ Below w.heap.size w w' := by
  have HS := Lib.hid hs
  clear hs
  go_enter Tryz.func35, Tryz.ntmps35
  go_wp2_with fail
  refine (HS.out _).mono ?_
  rintro e w1 ⟨rfl, rfl⟩
  go_wp2
  go_ret
  exact ⟨rfl, Below.refl _ _⟩
set_option maxRecDepth 100000 in
set_option maxHeartbeats 4000000 in
theorem use_name (cb base : Nat) (s no h p : ByteArray) (vI vD : Value) (is ds : List Mt) (p4 p6 : Addr) (w : World) (hE : Env w p4 p6) (hst : St w base cb no vI vD is ds) (h0 : 0 < s.size) (hs : ∀ w, Calls Tryz.prog 49 #[.string s] w (Host w h p))
    (hl : (h.toList == [108, 111, 99, 97, 108, 104, 111, 115, 116]) = false) (hPA : ∀ wx, Env wx p4 p6 → Calls Tryz.prog 53 #[.string h] wx (PostPA p4 p6 wx none)) (hsz : h.size ≤ 140737488351232) (hasc : Asc h) (hns : (norm h).size ≤ 140737488351232) (hits : List Bool) (hh : All2 (HitN (norm h) p) ds hits) (hn : ds.length ≤ 4294967296) :
    Calls Tryz.prog 35 #[.pointer (some ⟨cb, 0, none⟩), .string s] w fun e w' => e = .returned (.bool (!(hits.any id))) ∧ Below w.heap.size w w' := by
  have HS := Lib.hid hs
  have HP := Lib.hid hPA
  have HT := Lib.hid (trim_at h p4 p6 hsz hasc)
  have HLo := Lib.hid (lower_at h hsz hasc)
  have HE := Lib.hid (fun wx (hb : Below w.heap.size w wx) => hE.below hb)
  have HST := Lib.hid (fun wx (hb : Below w.heap.size w wx) => hst.below hb)
  have HH := Lib.hid hh
  have HNS := Lib.hid hns
  have qn := neq_nil80
  clear hs hPA hE hst hh hasc hns
  go_enter Tryz.func35, Tryz.ntmps35
  go_wp2_with fail
  refine (HS.out _).mono ?_
  rintro e w1 ⟨rfl, rfl⟩
  go_wp2_with fail
  refine (HP.out _ (HE.out _ (Below.refl _ _))).mono ?_
  rintro e w2 ⟨hb2, ev, rfl⟩
  have HB2 := Lib.hid (below_alloc hb2 (Obj.cells #[.int .u64 0, .int .u64 0, .pointer none] 102))
  clear hb2
  go_wp2_with fail
  refine (HT.out _ (HE.out _ HB2.out)).mono ?_
  rintro e w3 ⟨rfl, hb3⟩
  have HB3 := Lib.hid (blw HB2.out hb3)
  clear hb3
  go_wp2_with fail
  refine (HLo.out _).mono ?_
  rintro e w4 ⟨rfl, hb4⟩
  have HB4 := Lib.hid (blw HB3.out hb4)
  clear hb4
  obtain ⟨-, -, -, -, -, k6, k7, f0⟩ := (HST.out _ HB4.out).at_.facts
  obtain ⟨A, c, rfl, hrow⟩ := row_shape (HST.out _ HB4.out).rd
  have HROW := Lib.hid hrow
  clear hrow HT HLo HS HP
  generalize norm h = q at HH HNS ⊢
  go_wp2
  go_loopw [63] (fun v63 wr => ∃ k : Nat, k ≤ ds.length ∧ v63 = .int .i64 k ∧ Hid (Below w4.heap.size w4 wr) ∧ Hid ((hits.drop k).any id = hits.any id)) (fun i _ => ds.length - (intOf i).toNat)
  case atStart => exact ⟨0, by omega, rfl, Lib.hid (Below.refl _ _), Lib.hid rfl⟩
  case round =>
    obtain ⟨k, hk, rfl, HB, HG⟩ := hrel
    by_cases hkd : k < ds.length
    · obtain ⟨g, u, rfl, hu, hmt⟩ := HROW.out k hkd
      have hu' := pw_cell_below HB.out hu
      have hkh : k < hits.length := by rw [← HH.out.len]; exact hkd
      have hit := HH.out.get k hkd hkh
      have hdr : hits.drop k = hits[k] :: hits.drop (k + 1) := List.drop_eq_getElem_cons hkh
      have hG := HG.out
      rw [hdr] at hG
      generalize hits[k] = r at hit hG
      generalize ds[k] = m at hit hmt
      have HG1 := Lib.hid hG
      clear hG hdr hu HG
      cases hit with
      | all =>
        have hu2 : u = .iface 79 (.agg #[]) := hmt
        subst hu2
        clear hmt
        go_wp2_with fail
        refine (all_match _ _ _ _).mono ?_
        rintro e w5 ⟨rfl, hb5⟩
        have HB5 := Lib.hid (blw HB.out hb5)
        clear hb5
        go_wp2
        go_ret
        exact ⟨by rw [← HG1.out]; rfl, blw HB4.out HB5.out⟩
      | dom hd pd mh h1 =>
        have hu2 : u = .iface 94 (.agg #[.string hd, .string pd, .bool mh]) := hmt
        subst hu2
        clear hmt
        have HM := Lib.hid (fun wx => dom_match_host hd pd q p mh wx h1 (by have := HNS.out; omega) _ _ rfl rfl)
        generalize ((Lib.hasSuffix q.data.toList hd.data.toList || (mh && (q.toList == (hd.extract 1 hd.size).toList))) && (pd.toList.isEmpty || pd.toList == p.toList)) = r at HM HG1
        cases r with
        | true =>
          go_wp2_with fail
          refine (HM.out _).mono ?_
          rintro e w5 ⟨rfl, hb5⟩
          have HB5 := Lib.hid (blw HB.out hb5)
          clear hb5
          go_wp2
          go_ret
          exact ⟨by rw [← HG1.out]; rfl, blw HB4.out HB5.out⟩
        | false =>
          go_wp2_with fail
          refine (HM.out _).mono ?_
          rintro e w5 ⟨rfl, hb5⟩
          have HB5 := Lib.hid (blw HB.out hb5)
          clear hb5
          go_wp2
          exact ⟨⟨k + 1, by omega, by go_num, HB5, Lib.hid (by rw [← HG1.out]; rfl)⟩, by simp [intOf]; omega⟩
    · go_wp2
      go_ret
      exact ⟨by
        have h1 := HG.out
        rw [List.drop_of_length_le (by rw [← HH.out.len]; omega)] at h1
        rw [← h1]; rfl, blw HB4.out HB.out⟩
end Go.Proofs.YtpemdpfageikfaaGreatDoor.R
/- useProxy for addresses. -/
namespace Go.Proofs.YtpemdpfageikfaaGreatDoor.R
open Go.RowKit Go.Proofs.YtpemdpfageikfaaGreatDoorW.PrintWords Go.Proofs.YtpemdpfageikfaaGreatDoorW.PrintLast Go.Proofs.YtpemdpfageikfaaGreatDoorW.PrintMore

/-- What a rule for names says of an address. -/
inductive HitX : Mt → Bool → Prop
  | all : HitX .all true
  | dom (h p : ByteArray) (mh : Bool) : HitX (.dom h p mh) false
theorem ad_cells (a : Bool × Int × Int) (p4 p6 : Addr) : adVal p4 p6 a = .agg #[.int .u64 a.2.1, .int .u64 a.2.2, .pointer (some (bif a.1 then p6 else p4))] := rfl
/-- The way to the address's bytes, and a loopback. -/
theorem use_loop (cb : Nat) (s h p : ByteArray) (a : Bool × Int × Int) (p4 p6 : Addr) (w : World) (hE : Env w p4 p6) (h0 : 0 < s.size) (hs : ∀ w, Calls Tryz.prog 49 #[.string s] w (Host w h p))
    (hl : (h.toList == [108, 111, 99, 97, 108, 104, 111, 115, 116]) = false) (h1 : In64 a.2.1) (h2 : In64 a.2.2) (hPA : ∀ wx, Env wx p4 p6 → Calls Tryz.prog 53 #[.string h] wx (PostPA p4 p6 wx (some a))) (h6 : a.1 = true → is4in6 (b16 a) = false ∧ ∀ x ∈ b16 a, 0 ≤ x ∧ x ≤ 255) (hlb : lbOf a = true) :
    Calls Tryz.prog 35 #[.pointer (some ⟨cb, 0, none⟩), .string s] w fun e w' => e = .returned (.bool false) ∧ Below w.heap.size w w' := by
  have HS := Lib.hid hs
  have HP := Lib.hid hPA
  have HE := Lib.hid (fun wx (hb : Below w.heap.size w wx) => hE.below hb)
  have HA := Lib.hid (fun wx (hb : Below w.heap.size w wx) => asSlice_ad a p4 p6 wx (HE.out wx hb) h1 h2)
  have HL := Lib.hid (fun b T wx hb => isLoop_ad a b T wx hb h6)
  rw [hlb] at HL
  clear hs hPA hE h1 h2 h6 hlb
  go_enter Tryz.func35, Tryz.ntmps35
  go_wp2_with fail
  refine (HS.out _).mono ?_
  rintro e w1 ⟨rfl, rfl⟩
  go_wp2_with fail
  refine (HP.out _ (HE.out _ (Below.refl _ _))).mono ?_
  rintro e w2 ⟨hb2, rfl⟩
  rw [ad_cells]
  have HB2 := Lib.hid (below_alloc hb2 (Obj.cells #[.int .u64 a.2.1, .int .u64 a.2.2, .pointer (some (bif a.1 then p6 else p4))] 102))
  clear hb2
  go_wp2_with fail
  refine (HA.out _ HB2.out).mono ?_
  rintro e w3 ⟨b, T, hb, rfl, hh, hb3⟩
  have HB3 := Lib.hid (blw HB2.out hb3)
  have HH := Lib.hid hh
  clear hb3 hh hb
  go_wp2_with fail
  refine (HL.out _ _ _ HH.out).mono ?_
  rintro e w4 ⟨rfl, hb4⟩
  have HB4 := Lib.hid (blw HB3.out hb4)
  clear hb4
  go_wp2
  go_ret
  exact ⟨rfl, HB4.out⟩
set_option maxRecDepth 100000 in
set_option maxHeartbeats 4000000 in
theorem use_ip (cb base : Nat) (s no h p : ByteArray) (vI vD : Value) (is ds : List Mt) (a : Bool × Int × Int) (p4 p6 : Addr) (w : World) (hE : Env w p4 p6) (hst : St w base cb no vI vD is ds) (h0 : 0 < s.size) (hs : ∀ w, Calls Tryz.prog 49 #[.string s] w (Host w h p))
    (hl : (h.toList == [108, 111, 99, 97, 108, 104, 111, 115, 116]) = false) (h1 : In64 a.2.1) (h2 : In64 a.2.2) (hPA : ∀ wx, Env wx p4 p6 → Calls Tryz.prog 53 #[.string h] wx (PostPA p4 p6 wx (some a))) (h6 : a.1 = true → is4in6 (b16 a) = false ∧ ∀ x ∈ b16 a, 0 ≤ x ∧ x ≤ 255) (hlb : lbOf a = false)
    (hsz : h.size ≤ 140737488351232) (hasc : Asc h) (hits hitsD : List Bool) (hh : All2 (Hit (ysOf a) p) is hits) (hhD : All2 HitX ds hitsD) (hn : is.length ≤ 4294967296) (hnD : ds.length ≤ 4294967296) :
    Calls Tryz.prog 35 #[.pointer (some ⟨cb, 0, none⟩), .string s] w fun e w' => e = .returned (.bool (!(hits.any id) && !(hitsD.any id))) ∧ Below w.heap.size w w' := by
  have HS := Lib.hid hs
  have HP := Lib.hid hPA
  have HE := Lib.hid (fun wx (hb : Below w.heap.size w wx) => hE.below hb)
  have HA := Lib.hid (fun wx (hb : Below w.heap.size w wx) => asSlice_ad a p4 p6 wx (HE.out wx hb) h1 h2)
  have HL := Lib.hid (fun b T wx hb => isLoop_ad a b T wx hb h6)
  rw [hlb] at HL
  have HT := Lib.hid (trim_at h p4 p6 hsz hasc)
  have HLo := Lib.hid (lower_at h hsz hasc)
  have HST := Lib.hid (fun wx (hb : Below w.heap.size w wx) => hst.below hb)
  have HH := Lib.hid hh
  have HD := Lib.hid hhD
  have qn := neq_nil80
  clear hs hPA hE hst hh hhD hasc h1 h2 h6 hlb
  go_enter Tryz.func35, Tryz.ntmps35
  go_wp2_with fail
  refine (HS.out _).mono ?_
  rintro e w1 ⟨rfl, rfl⟩
  go_wp2_with fail
  refine (HP.out _ (HE.out _ (Below.refl _ _))).mono ?_
  rintro e w2 ⟨hb2, rfl⟩
  rw [ad_cells]
  have HB2 := Lib.hid (below_alloc hb2 (Obj.cells #[.int .u64 a.2.1, .int .u64 a.2.2, .pointer (some (bif a.1 then p6 else p4))] 102))
  clear hb2
  go_wp2_with fail
  refine (HA.out _ HB2.out).mono ?_
  rintro e w3 ⟨b, T, hb, rfl, hh3, hb3⟩
  have HB3 := Lib.hid (blw HB2.out hb3)
  have HY := Lib.hid hh3
  clear hb3 hb hh3
  go_wp2_with fail
  refine (HL.out _ _ _ HY.out).mono ?_
  rintro e w4 ⟨rfl, hb4⟩
  have HB4 := Lib.hid (blw HB3.out hb4)
  have HY4 := Lib.hid ((hb4.block b (blk_lt' HY.out)).trans HY.out)
  clear hb4
  go_wp2_with fail
  refine (HT.out _ (HE.out _ HB4.out)).mono ?_
  rintro e w5 ⟨rfl, hb5⟩
  have HB5 := Lib.hid (blw HB4.out hb5)
  have HY5 := Lib.hid ((hb5.block b (blk_lt' HY4.out)).trans HY4.out)
  clear hb5
  go_wp2_with fail
  refine (HLo.out _).mono ?_
  rintro e w6 ⟨rfl, hb6⟩
  have HB6 := Lib.hid (blw HB5.out hb6)
  have hy6 := (hb6.block b (blk_lt' HY5.out)).trans HY5.out
  clear hb6
  have HC6 : Hid (Kd.C (Kd.int .u8) w6 (some ⟨b, 0, none⟩) (ysOf a).length (ysOf a)) := Lib.hid (by
    have := C_block hy6 0 (ysOf a).length (by omega) (by rw [ysOf_len]; unfold lenOf; cases a.1 <;> simp)
    rwa [List.drop_zero, List.take_of_length_le (Nat.le_refl _)] at this)
  obtain ⟨-, -, -, -, -, k6, k7, f0⟩ := (HST.out _ HB6.out).at_.facts
  obtain ⟨AI, cI, rfl, hrowI⟩ := row_shape (HST.out _ HB6.out).ri
  obtain ⟨A, c, rfl, hrow⟩ := row_shape (HST.out _ HB6.out).rd
  have HROW := Lib.hid hrow
  have HROWI := Lib.hid hrowI
  clear hrow hrowI HT HLo HS HP HA HL HY HY4 HY5 hy6
  generalize norm h = q
  have HLEN := Lib.hid (ysOf_len a)
  go_wp2
  go_loopw [48] (fun v48 wr => ∃ k : Nat, k ≤ is.length ∧ v48 = .int .i64 k ∧ Hid (Below w6.heap.size w6 wr) ∧ Hid ((hits.drop k).any id = hits.any id)) (fun i _ => is.length - (intOf i).toNat)
  case atStart => exact ⟨0, by omega, rfl, Lib.hid (Below.refl _ _), Lib.hid rfl⟩
  case round =>
    obtain ⟨k, hk, rfl, HB, HG⟩ := hrel
    by_cases hkd : k < is.length
    · obtain ⟨g, u, rfl, hu, hmt⟩ := HROWI.out k hkd
      have hu' := pw_cell_below HB.out hu
      have hkh : k < hits.length := by rw [← HH.out.len]; exact hkd
      have hit := HH.out.get k hkd hkh
      have hdr : hits.drop k = hits[k] :: hits.drop (k + 1) := List.drop_eq_getElem_cons hkh
      have hG := HG.out
      rw [hdr] at hG
      generalize hits[k] = r at hit hG
      generalize is[k] = m at hit hmt
      have HG1 := Lib.hid hG
      have HCr := Lib.hid (Kd.C_below HC6.out HB.out)
      have hmt' := hmt.keep (W := wr) (ok' := fun _ => True) (fun j _ hj => HB.out.block j hj) (fun _ _ _ => trivial)
      clear hG hdr hu HG hmt
      have fin : ∀ (v : Value) (f : Nat) (args : Array Value), True := fun _ _ _ => trivial
      clear fin
      cases m with
      | all =>
        cases hit
        have hu2 : u = .iface 79 (.agg #[]) := hmt'
        subst hu2
        clear hmt'
        go_wp2_with fail
        refine (all_match _ _ _ _).mono ?_
        rintro e w7 ⟨rfl, hb7⟩
        have HB7 := Lib.hid (blw HB.out hb7)
        clear hb7
        go_wp2
        go_ret
        exact ⟨by rw [← HG1.out]; rfl, blw HB6.out HB7.out⟩
      | dom hd pd mh =>
        cases hit
        have hu2 : u = .iface 94 (.agg #[.string hd, .string pd, .bool mh]) := hmt'
        subst hu2
        clear hmt'
        go_wp2_with fail
        refine (dom_match_ip _ _ _ hd pd q p mh _).mono ?_
        rintro e w7 ⟨rfl, hb7⟩
        have HB7 := Lib.hid (blw HB.out hb7)
        clear hb7
        go_wp2
        exact ⟨⟨k + 1, by omega, by go_num, HB7, Lib.hid (by rw [← HG1.out]; rfl)⟩, by simp [intOf]; omega⟩
      | ip l pd =>
        obtain ⟨b2, -, rfl, hb2⟩ := hmt'
        have HM := Lib.hid (fun host => hit_ip (host := host) hb2 HCr.out (Nat.le_refl _) hit)
        rw [HLEN.out] at HM
        clear hb2 hit
        cases r with
        | true =>
          go_wp2_with fail
          refine (HM.out _).mono ?_
          rintro e w7 ⟨rfl, hb7⟩
          have HB7 := Lib.hid (blw HB.out hb7)
          clear hb7
          go_wp2
          go_ret
          exact ⟨by rw [← HG1.out]; rfl, blw HB6.out HB7.out⟩
        | false =>
          go_wp2_with fail
          refine (HM.out _).mono ?_
          rintro e w7 ⟨rfl, hb7⟩
          have HB7 := Lib.hid (blw HB.out hb7)
          clear hb7
          go_wp2
          exact ⟨⟨k + 1, by omega, by go_num, HB7, Lib.hid (by rw [← HG1.out]; rfl)⟩, by simp [intOf]; omega⟩
      | cidr L xs ms =>
        obtain ⟨g2, b2, o2, c2, d2, -, -, -, -, rfl, hb2⟩ := hmt'
        have HM := Lib.hid (fun host => hit_cidr (host := host) hb2 HCr.out (Nat.le_refl _) hit)
        rw [HLEN.out] at HM
        clear hb2 hit
        cases r with
        | true =>
          go_wp2_with fail
          refine (HM.out _).mono ?_
          rintro e w7 ⟨rfl, hb7⟩
          have HB7 := Lib.hid (blw HB.out hb7)
          clear hb7
          go_wp2
          go_ret
          exact ⟨by rw [← HG1.out]; rfl, blw HB6.out HB7.out⟩
        | false =>
          go_wp2_with fail
          refine (HM.out _).mono ?_
          rintro e w7 ⟨rfl, hb7⟩
          have HB7 := Lib.hid (blw HB.out hb7)
          clear hb7
          go_wp2
          exact ⟨⟨k + 1, by omega, by go_num, HB7, Lib.hid (by rw [← HG1.out]; rfl)⟩, by simp [intOf]; omega⟩
    · have hno : hits.any id = false := by
        have h1 := HG.out
        rw [List.drop_of_length_le (by rw [← HH.out.len]; omega)] at h1
        rw [← h1]; rfl
      have HNO := Lib.hid hno
      have WB := Lib.hid HB.out
      have k7' := pw_cell_below HB.out k7
      clear hno HG HB HH HROWI
      obtain ⟨wo, rfl⟩ : ∃ wo : World, wo = wr := ⟨_, rfl⟩
      go_wp2
      go_loopw [63] (fun v63 wr => ∃ k : Nat, k ≤ ds.length ∧ v63 = .int .i64 k ∧ Hid (Below w6.heap.size w6 wr) ∧ Hid ((hitsD.drop k).any id = hitsD.any id)) (fun i _ => ds.length - (intOf i).toNat)
      case atStart => exact ⟨0, by omega, rfl, Lib.hid WB.out, Lib.hid rfl⟩
      case round =>
        obtain ⟨k, hk, rfl, HB, HG⟩ := hrel
        by_cases hkd : k < ds.length
        · obtain ⟨g, u, rfl, hu, hmt⟩ := HROW.out k hkd
          have hu' := pw_cell_below HB.out hu
          have hkh : k < hitsD.length := by rw [← HD.out.len]; exact hkd
          have hit := HD.out.get k hkd hkh
          have hdr : hitsD.drop k = hitsD[k] :: hitsD.drop (k + 1) := List.drop_eq_getElem_cons hkh
          have hG := HG.out
          rw [hdr] at hG
          generalize hitsD[k] = r at hit hG
          generalize ds[k] = m at hit hmt
          have HG1 := Lib.hid hG
          clear hG hdr hu HG
          cases hit with
          | all =>
            have hu2 : u = .iface 79 (.agg #[]) := hmt
            subst hu2
            clear hmt
            go_wp2_with fail
            refine (all_match _ _ _ _).mono ?_
            rintro e w7 ⟨rfl, hb7⟩
            have HB7 := Lib.hid (blw HB.out hb7)
            clear hb7
            go_wp2
            go_ret
            exact ⟨by rw [HNO.out, ← HG1.out]; rfl, blw HB6.out HB7.out⟩
          | dom hd pd mh =>
            have hu2 : u = .iface 94 (.agg #[.string hd, .string pd, .bool mh]) := hmt
            subst hu2
            clear hmt
            go_wp2_with fail
            refine (dom_match_ip _ _ _ hd pd q p mh _).mono ?_
            rintro e w7 ⟨rfl, hb7⟩
            have HB7 := Lib.hid (blw HB.out hb7)
            clear hb7
            go_wp2
            exact ⟨⟨k + 1, by omega, by go_num, HB7, Lib.hid (by rw [← HG1.out]; rfl)⟩, by simp [intOf]; omega⟩
        · go_wp2
          go_ret
          exact ⟨by
            have h1 := HG.out
            rw [List.drop_of_length_le (by rw [← HD.out.len]; omega)] at h1
            rw [HNO.out, ← h1]; rfl, blw HB6.out HB.out⟩
end Go.Proofs.YtpemdpfageikfaaGreatDoor.R
/- UseProxy, by what init and useProxy do. -/
namespace Go.Proofs.YtpemdpfageikfaaGreatDoor.R
open Go.RowKit Go.Proofs.YtpemdpfageikfaaGreatDoorW.PrintWords Go.Proofs.YtpemdpfageikfaaGreatDoorW.PrintLast Go.Proofs.YtpemdpfageikfaaGreatDoorW.PrintMore

/-- What config.init leaves. -/
def InitPost (B cb : Nat) (no : ByteArray) (is ds : List Mt) (w : World) (e : Ending) (w' : World) : Prop := e = .returned (.tuple #[]) ∧ Below B w w' ∧ ∃ vI vD base, St w' base cb no vI vD is ds
/-- A bool, and nothing old written. -/
def Says (r : Bool) (w : World) (e : Ending) (w' : World) : Prop := e = .returned (.bool r) ∧ Below w.heap.size w w'
theorem zzUse (no addr : ByteArray) (is ds : List Mt) (r : Bool) (p4 p6 : Addr) (w : World) (hE : EnvB w w.heap.size p4 p6)
    (hI : ∀ wx cb, EnvB wx w.heap.size p4 p6 → w.heap.size ≤ cb → CbAt wx cb no (.slice none 0 0) (.slice none 0 0) → Calls Tryz.prog 34 #[.pointer (some ⟨cb, 0, none⟩)] wx (InitPost w.heap.size cb no is ds wx))
    (hU : ∀ wx cb vI vD base, Env wx p4 p6 → St wx base cb no vI vD is ds → Calls Tryz.prog 35 #[.pointer (some ⟨cb, 0, none⟩), .string addr] wx fun e w' => e = .returned (.bool r) ∧ Below wx.heap.size wx w') :
    Calls Tryz.prog 25 #[.string no, .string addr] w (Says r w) := by
  have HI := Lib.hid hI
  have HU := Lib.hid hU
  have HE := Lib.hid hE
  clear hI hU hE
  go_enter Tryz.func25, Tryz.ntmps25
  go_wp2_with fail
  refine (HI.out _ _ (HE.out.keep (below_alloc (Below.refl _ _) _)) (Nat.le_refl _) (heap_new _ _)).mono ?_
  rintro e w1 ⟨rfl, hb1, vI, vD, base, hst⟩
  have HST := Lib.hid hst
  have HB := Lib.hid (Below.trans (below_alloc (Below.refl _ _) _) hb1)
  clear hst hb1
  go_wp2_with fail
  refine (HU.out _ _ _ _ _ (HE.out.keep HB.out).env HST.out).mono ?_
  rintro e w2 ⟨rfl, hb2⟩
  have HB2 := Lib.hid (HB.out.trans (hb2.mono HB.out.size))
  clear hb2
  go_wp2
  go_ret
  exact ⟨rfl, HB2.out⟩
theorem use12 (no addr : ByteArray) (r : Bool) (w : World) (h : Calls Tryz.prog 25 #[.string no, .string addr] w (Says r w)) : Calls Tryz.prog 12 #[.string no, .string addr] w (Says r w) := by
  have H := Lib.hid h
  clear h
  go_enter Tryz.func12, Tryz.ntmps12
  go_wp2_with fail
  refine H.out.mono ?_
  rintro e w2 ⟨rfl, hb2⟩
  have HB2 := Lib.hid hb2
  clear hb2
  go_wp2
  go_ret
  exact ⟨rfl, HB2.out⟩
/-- The three lists of works. -/
def lst : ByteArray := ⟨#[97, 46, 98, 44, 32, 49, 46, 50, 46, 51, 46, 48, 47, 50, 52]⟩
theorem works11 (w : World) (h1 : ∀ wx, Below w.heap.size w wx → Calls Tryz.prog 12 #[.string lst, .string ⟨#[99, 46, 98, 58, 56, 48]⟩] wx (Says true wx)) (h2 : ∀ wx, Below w.heap.size w wx → Calls Tryz.prog 12 #[.string lst, .string ⟨#[120, 46, 97, 46, 98, 58, 56, 48]⟩] wx (Says false wx)) (h3 : ∀ wx, Below w.heap.size w wx → Calls Tryz.prog 12 #[.string lst, .string ⟨#[49, 46, 50, 46, 51, 46, 57, 58, 56, 48]⟩] wx (Says false wx)) :
    Calls Tryz.prog 11 #[] w (Says true w) := by
  have H1 := Lib.hid h1
  have H2 := Lib.hid h2
  have H3 := Lib.hid h3
  clear h1 h2 h3
  go_enter Tryz.func11, Tryz.ntmps11
  go_wp2_with fail
  refine (H1.out _ (Below.refl _ _)).mono ?_
  rintro e w1 ⟨rfl, hb1⟩
  have HB1 := Lib.hid hb1
  clear hb1
  go_wp2_with fail
  refine (H2.out _ HB1.out).mono ?_
  rintro e w2 ⟨rfl, hb2⟩
  have HB2 := Lib.hid (blw HB1.out hb2)
  clear hb2
  go_wp2_with fail
  refine (H3.out _ HB2.out).mono ?_
  rintro e w3 ⟨rfl, hb3⟩
  have HB3 := Lib.hid (blw HB2.out hb3)
  clear hb3
  go_wp2
  go_ret
  exact ⟨rfl, HB3.out⟩
end Go.Proofs.YtpemdpfageikfaaGreatDoor.R
