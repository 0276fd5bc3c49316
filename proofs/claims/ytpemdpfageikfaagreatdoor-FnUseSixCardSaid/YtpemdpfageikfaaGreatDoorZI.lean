/- config.init: the rules that a list comes to. -/
import Derived.Test.YtpemdpfageikfaaGreatDoorZH
import Derived.Deep.DeepCutAuto
import Derived.Deep.CutBlock
set_option linter.unusedVariables false
set_option linter.unusedSimpArgs false
/- config.init: the rules that a list comes to. -/
namespace Go.Proofs.YtpemdpfageikfaaGreatDoor.R
open Go.RowKit Go.Proofs.YtpemdpfageikfaaGreatDoorW.PrintWords Go.Proofs.YtpemdpfageikfaaGreatDoorW.PrintLast Go.Proofs.YtpemdpfageikfaaGreatDoorW.PrintMore

/-- What an entry comes to. -/
inductive Cls where
  | skip
  | star
  | ip (m : Mt)
  | dom (m : Mt)
def CidrYes (L : Nat) (xs ms : List Int) (w : World) (e : Ending) (w' : World) : Prop := ∃ u g b o c d, e = .returned (.tuple #[u, .pointer (some ⟨g, 0, none⟩), .nilIface]) ∧ Below w.heap.size w w' ∧ w.heap.size ≤ g ∧ w.heap.size ≤ b ∧ w.heap.size ≤ d ∧ CidrAt w' g b o c d L xs ms
def IpYes (l : List Int) (w : World) (e : Ending) (w' : World) : Prop := ∃ b, w.heap.size ≤ b ∧ e = .returned (.slice (some ⟨b, 0, none⟩) 16 16) ∧ w'.heap[b]? = some (.cells (nums .u8 l).toArray 28 (0, 0)) ∧ Below w.heap.size w w'
def IpNo (w : World) (e : Ending) (w' : World) : Prop := e = .returned (.slice none 0 0) ∧ Below w.heap.size w w'
/-- A name as it is kept: with a point ahead, and whether the name itself is meant too. -/
inductive DomOf (ph : ByteArray) : ByteArray → Bool → Prop
  | star (h : Lib.hasPrefix ph.data.toList [42, 46] = true) (hs : 2 ≤ ph.size) (h1 : ((ph[1]'(by omega)).toNat : Int) = 46) : DomOf ph (ph.extract 1 ph.size) false
  | dot (h : Lib.hasPrefix ph.data.toList [42, 46] = false) (hs : 0 < ph.size) (h1 : ((ph[0]'hs).toNat : Int) = 46) : DomOf ph ph false
  | name (h : Lib.hasPrefix ph.data.toList [42, 46] = false) (hs : 0 < ph.size) (x : Int) (h1 : ((ph[0]'hs).toNat : Int) = x) (hx : (x != 46) = true) : DomOf ph (⟨#[46]⟩ ++ ph) true
/-- The host and the port of an entry; none: an empty host ahead of a port. -/
inductive Phost (q : ByteArray) : Option (ByteArray × ByteArray) → Prop
  | ok (h p : ByteArray) (hs : ∀ w, Calls Tryz.prog 49 #[.string q] w (Host w h p)) (h0 : 0 < h.size) (x : Int) (h1 : ((h[0]'h0).toNat : Int) = x) (hx : (x == 91) = false) : Phost q (some (h, p))
  | no (p : ByteArray) (hs : ∀ w, Calls Tryz.prog 49 #[.string q] w (Host w ⟨#[]⟩ p)) : Phost q none
  | err (hs : ∀ w, Calls Tryz.prog 49 #[.string q] w (NoHost w)) : Phost q (some (q, ⟨#[]⟩))
inductive Kind (p4 p6 : Addr) (ph pp : ByteArray) : Cls → Prop
  | ip (l : List Int) (h : ∀ w, Env w p4 p6 → Calls Tryz.prog 50 #[.string ph] w (IpYes l w)) : Kind p4 p6 ph pp (.ip (.ip l pp))
  | dom (h : ∀ w, Env w p4 p6 → Calls Tryz.prog 50 #[.string ph] w (IpNo w)) (h0 : 0 < ph.size) (d : ByteArray) (mh : Bool) (hd : DomOf ph d mh) (hda : Asc d) (hs : ph.size ≤ 140737488351230) : Kind p4 p6 ph pp (.dom (.dom d pp mh))
inductive Ent (p4 p6 : Addr) (q : ByteArray) : Cls → Prop
  | empty (h : q.size = 0) : Ent p4 p6 q .skip
  | star (h : q = ⟨#[42]⟩) : Ent p4 p6 q .star
  | cidr (h0 : 0 < q.size) (hst : (q.toList == [42]) = false) (L : Nat) (hL : 0 < L) (xs ms : List Int) (hc : ∀ w, Env w p4 p6 → Calls Tryz.prog 48 #[.string q] w (CidrYes L xs ms w)) : Ent p4 p6 q (.ip (.cidr L xs ms))
  | rest (h0 : 0 < q.size) (hst : (q.toList == [42]) = false) (hno : ∀ w, Env w p4 p6 → Calls Tryz.prog 48 #[.string q] w (Fails w)) (hp : Phost q none) : Ent p4 p6 q .skip
  | more (h0 : 0 < q.size) (hst : (q.toList == [42]) = false) (hno : ∀ w, Env w p4 p6 → Calls Tryz.prog 48 #[.string q] w (Fails w)) (ph pp : ByteArray) (hp : Phost q (some (ph, pp))) (c : Cls) (hc : Kind p4 p6 ph pp c) : Ent p4 p6 q c
/-- The rules of a list, read on. -/
def gath : List Mt → List Mt → List Cls → List Mt × List Mt
  | is, ds, [] => (is, ds)
  | is, ds, .skip :: r => gath is ds r
  | _, _, .star :: _ => ([.all], [.all])
  | is, ds, .ip m :: r => gath (is ++ [m]) ds r
  | is, ds, .dom m :: r => gath is (ds ++ [m]) r
theorem St.fresh {w : World} {base cb : Nat} {no : ByteArray} {vI vD : Value} {is ds : List Mt} (h : St w base cb no vI vD is ds) {k : Nat} (hk : w.heap.size ≤ k) : Oth cb vI vD k :=
  ⟨by have := h.cbl; have := h.bl; omega, fun e => by have := (h.ri.lt k e.symm).2; omega, fun e => by have := (h.rd.lt k e.symm).2; omega⟩
theorem cell_one (w : World) (v : Value) (T : TypeId) : ∀ j u, [v][j]? = some u → (w.alloc (.cells #[v] T)).cell? ((⟨w.heap.size, 0, none⟩ : Addr).add j) = some u := fun j u hj => by
  match j, hj with
  | 0, hj => simp at hj; subst hj; simp [Addr.add]
theorem info107 : (Tryz.prog.info? 107).map (fun i => (i.zero, i.size, i.bytes)) = some (some .nilIface, 1, 16) := by kernel_rfl
theorem St.cbI {w w1 : World} {base cb : Nat} {no : ByteArray} {vI vD : Value} {is ds : List Mt} (h : St w base cb no vI vD is ds) (hg : w.grownBy w1 vI.ownBlock) : CbAt w1 cb no vI vD :=
  (hg.block cb (blk_lt' h.at_) (fun e => by have := (h.ri.lt cb e.symm).1; have := h.cbl; omega)).trans h.at_
theorem St.cbD {w w1 : World} {base cb : Nat} {no : ByteArray} {vI vD : Value} {is ds : List Mt} (h : St w base cb no vI vD is ds) (hg : w.grownBy w1 vD.ownBlock) : CbAt w1 cb no vI vD :=
  (hg.block cb (blk_lt' h.at_) (fun e => by have := (h.rd.lt cb e.symm).1; have := h.cbl; omega)).trans h.at_
theorem St.sbI {w w1 : World} {base cb sb : Nat} {no : ByteArray} {vI vD v : Value} {is ds : List Mt} {j : Nat} (h : St w base cb no vI vD is ds) (hg : w.grownBy w1 vI.ownBlock) (hs : sb < base) (hc : sb ≠ cb) : (w1.setCell ⟨cb, j, none⟩ v).heap[sb]? = w.heap[sb]? := by
  rw [setCell_heap_ne hc]
  exact hg.block sb (by have := h.bl; omega) (fun e => by have := (h.ri.lt sb e.symm).1; omega)
theorem St.sbD {w w1 : World} {base cb sb : Nat} {no : ByteArray} {vI vD v : Value} {is ds : List Mt} {j : Nat} (h : St w base cb no vI vD is ds) (hg : w.grownBy w1 vD.ownBlock) (hs : sb < base) (hc : sb ≠ cb) : (w1.setCell ⟨cb, j, none⟩ v).heap[sb]? = w.heap[sb]? := by
  rw [setCell_heap_ne hc]
  exact hg.block sb (by have := h.bl; omega) (fun e => by have := (h.rd.lt sb e.symm).1; omega)
theorem St.star {w : World} {base cb : Nat} {no : ByteArray} {vI vD : Value} {is ds : List Mt} (h : St w base cb no vI vD is ds) :
    St ((((w.setCell ⟨cb, 6, none⟩ (.slice (some ⟨w.heap.size, 0, none⟩) 1 1)).setCell ⟨cb, 7, none⟩ (.slice (some ⟨w.heap.size + 1, 0, none⟩) 1 1)).alloc (.cells #[.iface 79 (.agg #[])] 107)).alloc (.cells #[.iface 79 (.agg #[])] 107)) w.heap.size cb no (.slice (some ⟨w.heap.size, 0, none⟩) 1 1) (.slice (some ⟨w.heap.size + 1, 0, none⟩) 1 1) [.all] [.all] := by
  have hc := blk_lt' h.at_
  refine ⟨hc, by simp [World.setCell]; omega, ?_, ?_, ?_, ?_⟩
  · unfold CbAt
    rw [heap_old _ _ _ (by simp [World.setCell]; omega), heap_old _ _ _ (by simp [World.setCell]; omega), heap_setCell_same (heap_setCell_same h.at_ _)]
    rfl
  · refine ⟨[.iface 79 (.agg #[])], ⟨rfl, Or.inr ⟨w.heap.size, 1, #[.iface 79 (.agg #[])], rfl, Nat.le_refl _, ?_, Nat.le_refl _, by unfold maxLen; omega, rfl, rfl⟩⟩, .cons rfl .nil⟩
    rw [heap_old _ _ _ (by simp [World.setCell])]
    exact blk_last _ _ _ (by simp [World.setCell])
  · refine ⟨[.iface 79 (.agg #[])], ⟨rfl, Or.inr ⟨w.heap.size + 1, 1, #[.iface 79 (.agg #[])], rfl, by omega, ?_, Nat.le_refl _, by unfold maxLen; omega, rfl, rfl⟩⟩, .cons rfl .nil⟩
    exact blk_last _ _ _ (by simp [World.setCell])
  · right
    simp [Value.ownBlock]
theorem own_slice {w : World} {base n : Nat} {v : Value} {vs : List Value} (h : w.ownsRow base 107 1 v (n + 1) vs) : ∃ g cap, v = .slice (some ⟨g, 0, none⟩) (n + 1) cap := by
  rcases h.2 with ⟨_, h⟩ | ⟨g, cap, cur, h, _⟩
  · omega
  · exact ⟨g, cap, h⟩
theorem bal {w W : World} {B : Nat} {p4 p6 : Addr} (hE : EnvB w B p4 p6) (h : Below B w W) (o : Obj) : Below B w (W.alloc o) :=
  h.trans ⟨rfl, rfl, rfl, by simp, fun k hk => heap_old _ _ _ (by have := (hE.keep h).le; omega)⟩
set_option maxRecDepth 100000 in
set_option maxHeartbeats 8000000 in
theorem init_calls (cb B : Nat) (no : ByteArray) (p4 p6 : Addr) (w : World) (hE : EnvB w B p4 p6) (hB : B ≤ cb) (hcb : CbAt w cb no (.slice none 0 0) (.slice none 0 0)) (k0 : Nat) (es : List ByteArray) (hsp : Q.httpproxy_zzSplit.f k0 no ⟨#[44]⟩ = some es) (hne : 0 < es.length) (hes : es.length ≤ 4294967296) (cls : List Cls)
    (hent : All2 (fun p c => p.size ≤ 140737488351232 ∧ Asc p ∧ Ent p4 p6 (norm p) c) es cls) :
    Calls Tryz.prog 34 #[.pointer (some ⟨cb, 0, none⟩)] w fun e w' => e = .returned (.tuple #[]) ∧ Below B w w' ∧ ∃ vI vD base, St w' base cb no vI vD (gath [] [] cls).1 (gath [] [] cls).2 := by
  obtain ⟨i0, hi0', hz⟩ := Option.map_eq_some_iff.1 info107
  obtain ⟨hz0, hz1, hz2⟩ : i0.zero = some .nilIface ∧ i0.size = 1 ∧ i0.bytes = 16 := by simpa using hz
  have hi0 := Lib.hid hi0'
  clear hi0' hz
  have qn := neq_nil80
  have P0 := Lib.hid parseProxy_none
  have HE := Lib.hid hE
  have HS := Lib.hid (fun wx => Q.httpproxy_zzSplit.calls k0 no ⟨#[44]⟩ es wx hsp)
  have HN := Lib.hid hent
  have HC := Lib.hid hcb
  obtain ⟨k0, k1, k2, k4, k5, -, -, f0⟩ := hcb.facts
  clear hE hsp hent hcb
  go_enter Tryz.func34, Tryz.ntmps34
  go_wp2_with (go_at_call 44; refine (P0.out _).mono ?_; rintro e w1 ⟨rfl, rfl⟩)
  have HC0 : CbAt ((w.setCell ⟨cb, 5, none⟩ (.pointer none)).setCell ⟨cb, 4, none⟩ (.pointer none)) cb no (.slice none 0 0) (.slice none 0 0) := by
    unfold CbAt
    rw [heap_setCell_same (heap_setCell_same HC.out _)]
    rfl
  have HB0 : Below B w ((w.setCell ⟨cb, 5, none⟩ (.pointer none)).setCell ⟨cb, 4, none⟩ (.pointer none)) := ((Below.refl B w).setCell hB _).setCell hB _
  generalize (w.setCell ⟨cb, 5, none⟩ (.pointer none)).setCell ⟨cb, 4, none⟩ (.pointer none) = W0 at HC0 HB0 ⊢
  have HE0 := Lib.hid (HE.out.keep HB0)
  replace HB0 := Lib.hid HB0
  replace HC0 := Lib.hid HC0
  clear HC P0 k0 k1 k2 k4 k5 f0
  refine (HS.out _).mono ?_
  rintro e w1 ⟨v0, rfl, hr, hb⟩
  obtain ⟨A, c, rfl⟩ := Kd.R_slice hr
  obtain ⟨-, -, h3⟩ := Kd.R_reads' hr
  obtain ⟨sb, so, rfl, hcell⟩ := str_cells h3 hne
  obtain ⟨-, inner, hsown, -⟩ := id hr
  have hsb := (hsown.lt sb rfl).1
  clear hsown
  have HB1 := Lib.hid (HB0.out.trans (hb.mono HE0.out.le))
  have HE1 := Lib.hid (HE0.out.keep (hb.mono HE0.out.le))
  have hsl : sb < w1.heap.size := World.block_lt_of_cell? w1 _ (hcell 0 hne)
  have hcl : cb < W0.heap.size := blk_lt' HC0.out
  have hst : St w1 w1.heap.size cb no (.slice none 0 0) (.slice none 0 0) [] [] := ⟨by have := hb.size; omega, Nat.le_refl _, (hb.block cb hcl).trans HC0.out, ⟨[], World.ownsRow_nil _ _ _ _, .nil⟩, ⟨[], World.ownsRow_nil _ _ _ _, .nil⟩, Or.inl rfl⟩
  have HST := Lib.hid hst
  have HCELL := Lib.hid hcell
  have HSB := Lib.hid hsb
  clear hr hb h3 hcell hsb hst HS
  go_wp2
  go_loopw [55] (fun v55 wr => ∃ (k : Nat) (is ds : List Mt) (vI vD : Value), k ≤ es.length ∧ v55 = .int .i64 k ∧ Hid (is.length ≤ k ∧ ds.length ≤ k) ∧ Hid (St wr w1.heap.size cb no vI vD is ds) ∧ Hid (Below B w wr) ∧ Hid (wr.heap[sb]? = w1.heap[sb]?) ∧ Hid (gath is ds (cls.drop k) = gath [] [] cls)) (fun i _ => es.length - (intOf i).toNat)
  case atStart => exact ⟨0, [], [], _, _, by omega, rfl, Lib.hid ⟨by simp, by simp⟩, HST, HB1, Lib.hid rfl, Lib.hid rfl⟩
  case round =>
    obtain ⟨k, is, ds, vI, vD, hk, rfl, HL, HS, HB, HSS, HG⟩ := hrel
    by_cases hke : k < es.length
    · have he := World.cell?_of_block (a := ⟨sb, so + k, none⟩) HSS.out
      rw [HCELL.out k hke] at he
      obtain ⟨hps, hpa, hent⟩ := HN.out.get k hke (by rw [← HN.out.len]; exact hke)
      obtain ⟨p, hp⟩ : ∃ p, es[k] = p := ⟨_, rfl⟩
      obtain ⟨cl, hcl'⟩ : ∃ cl, cls[k]'(by rw [← HN.out.len]; exact hke) = cl := ⟨_, rfl⟩
      rw [hp] at he hps hpa hent
      rw [hcl'] at hent
      have hG := HG.out
      rw [List.drop_eq_getElem_cons (by rw [← HN.out.len]; exact hke), hcl'] at hG
      have HG1 := Lib.hid hG
      have HEr := Lib.hid (HE.out.keep HB.out)
      have HT := Lib.hid (trim_at p p4 p6 hps hpa)
      have HLo := Lib.hid (lower_at p hps hpa)
      have HEnt := Lib.hid hent
      clear hG hps hpa hent hp hcl' HG
      go_wp2_with fail
      refine (HT.out _ HEr.out.env).mono ?_
      rintro e w2 ⟨rfl, hb2⟩
      have HS2 := Lib.hid (HS.out.below hb2)
      have HB2 := Lib.hid (HB.out.trans (hb2.mono HEr.out.le))
      have HSS2 := Lib.hid ((hb2.block sb (Nat.lt_of_lt_of_le hsl HS.out.bl)).trans HSS.out)
      clear hb2
      go_wp2_with fail
      refine (HLo.out _).mono ?_
      rintro e w3 ⟨rfl, hb3⟩
      have HS3 := Lib.hid (HS2.out.below hb3)
      have HB3 := Lib.hid (HB2.out.trans (hb3.mono (HE.out.keep HB2.out).le))
      have HSS3 := Lib.hid ((hb3.block sb (Nat.lt_of_lt_of_le hsl HS2.out.bl)).trans HSS2.out)
      have HE3 := Lib.hid (HE.out.keep HB3.out)
      generalize norm p = q at HEnt ⊢
      clear hb3 HS2 HB2 HSS2 HT HLo HEr HS HB HSS he
      obtain ⟨-, -, -, -, -, k6, k7, f0⟩ := HS3.out.at_.facts
      have hcb3 : cb < w3.heap.size := blk_lt' HS3.out.at_
      rcases HEnt.out with h | h | ⟨h0, hst, L, hL, xs, ms, hc⟩ | ⟨h0, hst, hno, hp⟩ | ⟨h0, hst, hno, ph, pp, hp, c, hc⟩
      · have t0 : ((q.size : Int) == 0) = true := by simp [h]
        clear h
        go_wp2
        exact ⟨⟨k + 1, is, ds, vI, vD, by omega, by go_num, Lib.hid ⟨by have := HL.out; omega, by have := HL.out; omega⟩, HS3, HB3, HSS3, Lib.hid (by rw [← HG1.out]; rfl)⟩, by simp [intOf]; omega⟩
      · subst h
        go_wp2
        go_returns
        refine ⟨rfl, ?_, .slice (some ⟨w3.heap.size, 0, none⟩) 1 1, .slice (some ⟨w3.heap.size + 1, 0, none⟩) 1 1, w3.heap.size, ?_⟩
        · exact bal HE.out (bal HE.out ((HB3.out.setCell hB _).setCell hB _) _) _
        · rw [← HG1.out]
          exact HS3.out.star
      · have hc' := Lib.hid hc
        clear hc
        go_wp2_with fail
        refine (hc'.out _ HE3.out.env).mono ?_
        rintro e w4 ⟨u, g, b, o, c, d, rfl, hb4, hg4, hb4', hd4, hcd⟩
        have HMT := Lib.hid (show MtAt (w4.alloc (.cells #[.iface 85 (.agg #[.pointer (some ⟨g, 0, none⟩)])] 107)) (Oth cb vI vD) (.cidr L xs ms) (.iface 85 (.agg #[.pointer (some ⟨g, 0, none⟩)])) from (show MtAt w4 (Oth cb vI vD) (.cidr L xs ms) (.iface 85 (.agg #[.pointer (some ⟨g, 0, none⟩)])) from ⟨g, b, o, c, d, HS3.out.fresh hg4, HS3.out.fresh hb4', HS3.out.fresh hd4, hL, rfl, hcd⟩).keep (fun k _ hk => heap_old _ _ k hk) (fun k ho _ => ho))
        clear hg4 hb4' hd4 hcd k6 k7 f0
        have HS4 := Lib.hid (HS3.out.below hb4)
        have HB4 := Lib.hid (HB3.out.trans (hb4.mono (HE.out.keep HB3.out).le))
        have HSS4 := Lib.hid ((hb4.block sb (Nat.lt_of_lt_of_le hsl HS3.out.bl)).trans HSS3.out)
        have HE4 := Lib.hid (HE.out.keep HB4.out)
        obtain ⟨-, -, -, -, -, k6, k7, f0⟩ := HS4.out.at_.facts
        have hcb4 : cb < w4.heap.size := blk_lt' HS4.out.at_
        clear hb4
        have HS5 := Lib.hid (HS4.out.below (below_alloc (Below.refl _ _) (.cells #[.iface 85 (.agg #[.pointer (some ⟨g, 0, none⟩)])] 107)))
        have HB5 := Lib.hid (bal HE.out HB4.out (.cells #[.iface 85 (.agg #[.pointer (some ⟨g, 0, none⟩)])] 107))
        have HSS5 := Lib.hid ((heap_old w4 (.cells #[.iface 85 (.agg #[.pointer (some ⟨g, 0, none⟩)])] 107) sb (Nat.lt_of_lt_of_le hsl HS4.out.bl)).trans HSS4.out)
        obtain ⟨vs, hown, hall⟩ := HS5.out.ri
        have HOWN := Lib.hid hown
        have HALL := Lib.hid hall
        clear hown hall
        go_wp2_with (at_builtin; refine wpList_append_own_at _ rfl _ _ 60 rfl w1.heap.size 107 i0 .nilIface 1 16 Tryz.underlying60 hi0.out hz0 hz1 hz2 rfl (by decide) _ _ _ rfl HOWN.out ⟨w4.heap.size, 0, none⟩ 1 1 [.iface 85 (.agg #[.pointer (some ⟨g, 0, none⟩)])] rfl rfl (cell_one _ _ _) (by intro u hu; simp at hu; subst hu; rfl) (by unfold maxLen; have := HL.out; omega) (by have := HL.out; omega) HS5.out.bl ?_; intro v' w5 hown' hgrow hnil hloc; obtain ⟨g', cap', rfl⟩ := own_slice hown'; obtain ⟨-, -, -, -, -, k', -, f'⟩ := (HS5.out.cbI hgrow).facts; have HOW := Lib.hid hown'; have HGR := Lib.hid hgrow; have HLC := Lib.hid hloc; clear hown' hgrow hloc hnil k6 k7 f0)
        exact ⟨⟨k + 1, is ++ [.cidr L xs ms], ds, _, vD, by omega, by go_num, Lib.hid ⟨by have := HL.out; simp; omega, by have := HL.out; simp; omega⟩, Lib.hid (HS5.out.addI HMT.out HALL.out HOW.out HGR.out HLC.out), Lib.hid ((HS5.out.grown HB5.out hB HGR.out).setCell hB _), Lib.hid ((HS5.out.sbI HGR.out hsl (by have := HSB.out; omega)).trans HSS5.out), Lib.hid (by rw [← HG1.out]; rfl)⟩, by simp [intOf]; omega⟩
      · have hno' := Lib.hid hno
        clear hno
        obtain ⟨pp, hs⟩ : ∃ pp, Hid (∀ w, Calls Tryz.prog 49 #[.string q] w (Host w ⟨#[]⟩ pp)) := by cases hp with | no p hs => exact ⟨p, Lib.hid hs⟩
        go_wp2_with fail
        refine (hno'.out _ HE3.out.env).mono ?_
        rintro e w4 ⟨⟨ev, rfl⟩, hb4⟩
        clear k6 k7 f0
        have HS4 := Lib.hid (HS3.out.below hb4)
        have HB4 := Lib.hid (HB3.out.trans (hb4.mono (HE.out.keep HB3.out).le))
        have HSS4 := Lib.hid ((hb4.block sb (Nat.lt_of_lt_of_le hsl HS3.out.bl)).trans HSS3.out)
        have HE4 := Lib.hid (HE.out.keep HB4.out)
        obtain ⟨-, -, -, -, -, k6, k7, f0⟩ := HS4.out.at_.facts
        have hcb4 : cb < w4.heap.size := blk_lt' HS4.out.at_
        clear hb4
        go_wp2_with (go_at_call 49; refine (hs.out _).mono ?_; rintro e w5 ⟨rfl, rfl⟩)
        exact ⟨⟨k + 1, is, ds, vI, vD, by omega, by go_num, Lib.hid ⟨by have := HL.out; omega, by have := HL.out; omega⟩, HS4, HB4, HSS4, Lib.hid (by rw [← HG1.out]; rfl)⟩, by simp [intOf]; omega⟩
      · have hno' := Lib.hid hno
        clear hno
        go_wp2_with fail
        refine (hno'.out _ HE3.out.env).mono ?_
        rintro e w4 ⟨⟨ev, rfl⟩, hb4⟩
        clear k6 k7 f0
        have HS4 := Lib.hid (HS3.out.below hb4)
        have HB4 := Lib.hid (HB3.out.trans (hb4.mono (HE.out.keep HB3.out).le))
        have HSS4 := Lib.hid ((hb4.block sb (Nat.lt_of_lt_of_le hsl HS3.out.bl)).trans HSS3.out)
        have HE4 := Lib.hid (HE.out.keep HB4.out)
        obtain ⟨-, -, -, -, -, k6, k7, f0⟩ := HS4.out.at_.facts
        have hcb4 : cb < w4.heap.size := blk_lt' HS4.out.at_
        clear hb4
        cases hp with
        | ok _ _ hs hh0 x hh1 hx =>
          have HH := Lib.hid hs
          clear hs
          cases hc with
          | ip l hip =>
            have HIP := Lib.hid hip
            clear hip
            go_wp2_with (go_at_call 49; refine (HH.out _).mono ?_; rintro e w5 ⟨rfl, rfl⟩)
            refine (HIP.out _ HE4.out.env).mono ?_
            rintro e w6 ⟨b, hbb, rfl, hb6h, hb6⟩
            have HMT := Lib.hid (show MtAt (w6.alloc (.cells #[.iface 90 (.agg #[.slice (some ⟨b, 0, none⟩) 16 16, .string pp])] 107)) (Oth cb vI vD) (.ip l pp) (.iface 90 (.agg #[.slice (some ⟨b, 0, none⟩) 16 16, .string pp])) from (show MtAt w6 (Oth cb vI vD) (.ip l pp) (.iface 90 (.agg #[.slice (some ⟨b, 0, none⟩) 16 16, .string pp])) from ⟨b, HS4.out.fresh hbb, rfl, hb6h⟩).keep (fun k _ hk => heap_old _ _ k hk) (fun k ho _ => ho))
            clear hbb hb6h k6 k7 f0
            have HS6 := Lib.hid (HS4.out.below hb6)
            have HB6 := Lib.hid (HB4.out.trans (hb6.mono (HE.out.keep HB4.out).le))
            have HSS6 := Lib.hid ((hb6.block sb (Nat.lt_of_lt_of_le hsl HS4.out.bl)).trans HSS4.out)
            have HE6 := Lib.hid (HE.out.keep HB6.out)
            obtain ⟨-, -, -, -, -, k6, k7, f0⟩ := HS6.out.at_.facts
            have hcb6 : cb < w6.heap.size := blk_lt' HS6.out.at_
            clear hb6
            have HS5 := Lib.hid (HS6.out.below (below_alloc (Below.refl _ _) (.cells #[.iface 90 (.agg #[.slice (some ⟨b, 0, none⟩) 16 16, .string pp])] 107)))
            have HB5 := Lib.hid (bal HE.out HB6.out (.cells #[.iface 90 (.agg #[.slice (some ⟨b, 0, none⟩) 16 16, .string pp])] 107))
            have HSS5 := Lib.hid ((heap_old w6 (.cells #[.iface 90 (.agg #[.slice (some ⟨b, 0, none⟩) 16 16, .string pp])] 107) sb (Nat.lt_of_lt_of_le hsl HS6.out.bl)).trans HSS6.out)
            obtain ⟨vs, hown, hall⟩ := HS5.out.ri
            have HOWN := Lib.hid hown
            have HALL := Lib.hid hall
            clear hown hall
            go_wp2_with (at_builtin; refine wpList_append_own_at _ rfl _ _ 60 rfl w1.heap.size 107 i0 .nilIface 1 16 Tryz.underlying60 hi0.out hz0 hz1 hz2 rfl (by decide) _ _ _ rfl HOWN.out ⟨w6.heap.size, 0, none⟩ 1 1 [.iface 90 (.agg #[.slice (some ⟨b, 0, none⟩) 16 16, .string pp])] rfl rfl (cell_one _ _ _) (by intro u hu; simp at hu; subst hu; rfl) (by unfold maxLen; have := HL.out; omega) (by have := HL.out; omega) HS5.out.bl ?_; intro v' w5 hown' hgrow hnil hloc; obtain ⟨g', cap', rfl⟩ := own_slice hown'; obtain ⟨-, -, -, -, -, k', -, f'⟩ := (HS5.out.cbI hgrow).facts; have HOW := Lib.hid hown'; have HGR := Lib.hid hgrow; have HLC := Lib.hid hloc; clear hown' hgrow hloc hnil k6 k7 f0)
            exact ⟨⟨k + 1, is ++ [.ip l pp], ds, _, vD, by omega, by go_num, Lib.hid ⟨by have := HL.out; simp; omega, by have := HL.out; simp; omega⟩, Lib.hid (HS5.out.addI HMT.out HALL.out HOW.out HGR.out HLC.out), Lib.hid ((HS5.out.grown HB5.out hB HGR.out).setCell hB _), Lib.hid ((HS5.out.sbI HGR.out hsl (by have := HSB.out; omega)).trans HSS5.out), Lib.hid (by rw [← HG1.out]; rfl)⟩, by simp [intOf]; omega⟩
          | dom hip hd0 d mh hd hda hsz =>
            have HIP := Lib.hid hip
            clear hip
            have HDA := Lib.hid (fun (hz : d.size ≤ 140737488351232) wx => idna d wx hz hda)
            clear hda
            go_wp2_with (go_at_call 49; refine (HH.out _).mono ?_; rintro e w5 ⟨rfl, rfl⟩)
            refine (HIP.out _ HE4.out.env).mono ?_
            rintro e w6 ⟨rfl, hb6⟩
            clear k6 k7 f0
            have HS6 := Lib.hid (HS4.out.below hb6)
            have HB6 := Lib.hid (HB4.out.trans (hb6.mono (HE.out.keep HB4.out).le))
            have HSS6 := Lib.hid ((hb6.block sb (Nat.lt_of_lt_of_le hsl HS4.out.bl)).trans HSS4.out)
            have HE6 := Lib.hid (HE.out.keep HB6.out)
            obtain ⟨-, -, -, -, -, k6, k7, f0⟩ := HS6.out.at_.facts
            have hcb6 : cb < w6.heap.size := blk_lt' HS6.out.at_
            clear hb6
            cases hd with
            | star hpx hsz2 hx1 =>
              have HPX := Lib.hid (fun wx => (Tryz.strings_HasPrefix ph ⟨#[42, 46]⟩ wx).mono fun _ _ (x : _ = Ending.returned (.bool (Lib.hasPrefix ph.data.toList [42, 46])) ∧ _) => And.intro (x.1.trans (by rw [hpx])) x.2.symm)
              clear hpx
              have hx2 : ∀ h, (((ph.extract 1 ph.size)[0]'h).toNat : Int) = 46 := fun h => by simpa [ByteArray.getElem_extract] using hx1
              have hszd : (ph.extract 1 ph.size).size ≤ 140737488351232 := by simp; omega
              have HDZ := Lib.hid (HDA.out hszd)
              clear hszd
              go_wp2_with (go_at_call 51; refine (HPX.out _).mono ?_; rintro e w7 ⟨rfl, rfl⟩)
              refine (HDZ.out _).mono ?_
              rintro e w8 ⟨rfl, hb8⟩
              have HMT := Lib.hid (show MtAt (w8.alloc (.cells #[.iface 94 (.agg #[.string (ph.extract 1 ph.size), .string pp, .bool false])] 107)) (Oth cb vI vD) (.dom (ph.extract 1 ph.size) pp false) (.iface 94 (.agg #[.string (ph.extract 1 ph.size), .string pp, .bool false])) from rfl)
              clear k6 k7 f0
              have HS8 := Lib.hid (HS6.out.below hb8)
              have HB8 := Lib.hid (HB6.out.trans (hb8.mono (HE.out.keep HB6.out).le))
              have HSS8 := Lib.hid ((hb8.block sb (Nat.lt_of_lt_of_le hsl HS6.out.bl)).trans HSS6.out)
              have HE8 := Lib.hid (HE.out.keep HB8.out)
              obtain ⟨-, -, -, -, -, k6, k7, f0⟩ := HS8.out.at_.facts
              have hcb8 : cb < w8.heap.size := blk_lt' HS8.out.at_
              clear hb8
              have HS5 := Lib.hid (HS8.out.below (below_alloc (Below.refl _ _) (.cells #[.iface 94 (.agg #[.string (ph.extract 1 ph.size), .string pp, .bool false])] 107)))
              have HB5 := Lib.hid (bal HE.out HB8.out (.cells #[.iface 94 (.agg #[.string (ph.extract 1 ph.size), .string pp, .bool false])] 107))
              have HSS5 := Lib.hid ((heap_old w8 (.cells #[.iface 94 (.agg #[.string (ph.extract 1 ph.size), .string pp, .bool false])] 107) sb (Nat.lt_of_lt_of_le hsl HS8.out.bl)).trans HSS8.out)
              obtain ⟨vs, hown, hall⟩ := HS5.out.rd
              have HOWN := Lib.hid hown
              have HALL := Lib.hid hall
              clear hown hall
              go_wp2_with (at_builtin; refine wpList_append_own_at _ rfl _ _ 60 rfl w1.heap.size 107 i0 .nilIface 1 16 Tryz.underlying60 hi0.out hz0 hz1 hz2 rfl (by decide) _ _ _ rfl HOWN.out ⟨w8.heap.size, 0, none⟩ 1 1 [.iface 94 (.agg #[.string (ph.extract 1 ph.size), .string pp, .bool false])] rfl rfl (cell_one _ _ _) (by intro u hu; simp at hu; subst hu; rfl) (by unfold maxLen; have := HL.out; omega) (by have := HL.out; omega) HS5.out.bl ?_; intro v' w5 hown' hgrow hnil hloc; obtain ⟨g', cap', rfl⟩ := own_slice hown'; obtain ⟨-, -, -, -, -, -, k', f'⟩ := (HS5.out.cbD hgrow).facts; have HOW := Lib.hid hown'; have HGR := Lib.hid hgrow; have HLC := Lib.hid hloc; clear hown' hgrow hloc hnil k6 k7 f0)
              exact ⟨⟨k + 1, is, ds ++ [.dom (ph.extract 1 ph.size) pp false], vI, _, by omega, by go_num, Lib.hid ⟨by have := HL.out; simp; omega, by have := HL.out; simp; omega⟩, Lib.hid (HS5.out.addD HMT.out HALL.out HOW.out HGR.out HLC.out), Lib.hid ((HS5.out.grownD HB5.out hB HGR.out).setCell hB _), Lib.hid ((HS5.out.sbD HGR.out hsl (by have := HSB.out; omega)).trans HSS5.out), Lib.hid (by rw [← HG1.out]; rfl)⟩, by simp [intOf]; omega⟩
            | dot hpx hsz2 hx1 =>
              have HPX := Lib.hid (fun wx => (Tryz.strings_HasPrefix ph ⟨#[42, 46]⟩ wx).mono fun _ _ (x : _ = Ending.returned (.bool (Lib.hasPrefix ph.data.toList [42, 46])) ∧ _) => And.intro (x.1.trans (by rw [hpx])) x.2.symm)
              clear hpx
              have hszd : ph.size ≤ 140737488351232 := by omega
              have HDZ := Lib.hid (HDA.out hszd)
              clear hszd
              go_wp2_with (go_at_call 51; refine (HPX.out _).mono ?_; rintro e w7 ⟨rfl, rfl⟩)
              refine (HDZ.out _).mono ?_
              rintro e w8 ⟨rfl, hb8⟩
              have HMT := Lib.hid (show MtAt (w8.alloc (.cells #[.iface 94 (.agg #[.string ph, .string pp, .bool false])] 107)) (Oth cb vI vD) (.dom ph pp false) (.iface 94 (.agg #[.string ph, .string pp, .bool false])) from rfl)
              clear k6 k7 f0
              have HS8 := Lib.hid (HS6.out.below hb8)
              have HB8 := Lib.hid (HB6.out.trans (hb8.mono (HE.out.keep HB6.out).le))
              have HSS8 := Lib.hid ((hb8.block sb (Nat.lt_of_lt_of_le hsl HS6.out.bl)).trans HSS6.out)
              have HE8 := Lib.hid (HE.out.keep HB8.out)
              obtain ⟨-, -, -, -, -, k6, k7, f0⟩ := HS8.out.at_.facts
              have hcb8 : cb < w8.heap.size := blk_lt' HS8.out.at_
              clear hb8
              have HS5 := Lib.hid (HS8.out.below (below_alloc (Below.refl _ _) (.cells #[.iface 94 (.agg #[.string ph, .string pp, .bool false])] 107)))
              have HB5 := Lib.hid (bal HE.out HB8.out (.cells #[.iface 94 (.agg #[.string ph, .string pp, .bool false])] 107))
              have HSS5 := Lib.hid ((heap_old w8 (.cells #[.iface 94 (.agg #[.string ph, .string pp, .bool false])] 107) sb (Nat.lt_of_lt_of_le hsl HS8.out.bl)).trans HSS8.out)
              obtain ⟨vs, hown, hall⟩ := HS5.out.rd
              have HOWN := Lib.hid hown
              have HALL := Lib.hid hall
              clear hown hall
              go_wp2_with (at_builtin; refine wpList_append_own_at _ rfl _ _ 60 rfl w1.heap.size 107 i0 .nilIface 1 16 Tryz.underlying60 hi0.out hz0 hz1 hz2 rfl (by decide) _ _ _ rfl HOWN.out ⟨w8.heap.size, 0, none⟩ 1 1 [.iface 94 (.agg #[.string ph, .string pp, .bool false])] rfl rfl (cell_one _ _ _) (by intro u hu; simp at hu; subst hu; rfl) (by unfold maxLen; have := HL.out; omega) (by have := HL.out; omega) HS5.out.bl ?_; intro v' w5 hown' hgrow hnil hloc; obtain ⟨g', cap', rfl⟩ := own_slice hown'; obtain ⟨-, -, -, -, -, -, k', f'⟩ := (HS5.out.cbD hgrow).facts; have HOW := Lib.hid hown'; have HGR := Lib.hid hgrow; have HLC := Lib.hid hloc; clear hown' hgrow hloc hnil k6 k7 f0)
              exact ⟨⟨k + 1, is, ds ++ [.dom ph pp false], vI, _, by omega, by go_num, Lib.hid ⟨by have := HL.out; simp; omega, by have := HL.out; simp; omega⟩, Lib.hid (HS5.out.addD HMT.out HALL.out HOW.out HGR.out HLC.out), Lib.hid ((HS5.out.grownD HB5.out hB HGR.out).setCell hB _), Lib.hid ((HS5.out.sbD HGR.out hsl (by have := HSB.out; omega)).trans HSS5.out), Lib.hid (by rw [← HG1.out]; rfl)⟩, by simp [intOf]; omega⟩
            | name hpx hsz2 x' hx1 hx' =>
              have HPX := Lib.hid (fun wx => (Tryz.strings_HasPrefix ph ⟨#[42, 46]⟩ wx).mono fun _ _ (x : _ = Ending.returned (.bool (Lib.hasPrefix ph.data.toList [42, 46])) ∧ _) => And.intro (x.1.trans (by rw [hpx])) x.2.symm)
              clear hpx
              have hszd : (⟨#[46]⟩ ++ ph : ByteArray).size ≤ 140737488351232 := by simp [ByteArray.size_append]; show 1 + _ ≤ _; omega
              have HDZ := Lib.hid (HDA.out hszd)
              clear hszd
              go_wp2_with (go_at_call 51; refine (HPX.out _).mono ?_; rintro e w7 ⟨rfl, rfl⟩)
              refine (HDZ.out _).mono ?_
              rintro e w8 ⟨rfl, hb8⟩
              have HMT := Lib.hid (show MtAt (w8.alloc (.cells #[.iface 94 (.agg #[.string (⟨#[46]⟩ ++ ph), .string pp, .bool true])] 107)) (Oth cb vI vD) (.dom (⟨#[46]⟩ ++ ph) pp true) (.iface 94 (.agg #[.string (⟨#[46]⟩ ++ ph), .string pp, .bool true])) from rfl)
              clear k6 k7 f0
              have HS8 := Lib.hid (HS6.out.below hb8)
              have HB8 := Lib.hid (HB6.out.trans (hb8.mono (HE.out.keep HB6.out).le))
              have HSS8 := Lib.hid ((hb8.block sb (Nat.lt_of_lt_of_le hsl HS6.out.bl)).trans HSS6.out)
              have HE8 := Lib.hid (HE.out.keep HB8.out)
              obtain ⟨-, -, -, -, -, k6, k7, f0⟩ := HS8.out.at_.facts
              have hcb8 : cb < w8.heap.size := blk_lt' HS8.out.at_
              clear hb8
              have HS5 := Lib.hid (HS8.out.below (below_alloc (Below.refl _ _) (.cells #[.iface 94 (.agg #[.string (⟨#[46]⟩ ++ ph), .string pp, .bool true])] 107)))
              have HB5 := Lib.hid (bal HE.out HB8.out (.cells #[.iface 94 (.agg #[.string (⟨#[46]⟩ ++ ph), .string pp, .bool true])] 107))
              have HSS5 := Lib.hid ((heap_old w8 (.cells #[.iface 94 (.agg #[.string (⟨#[46]⟩ ++ ph), .string pp, .bool true])] 107) sb (Nat.lt_of_lt_of_le hsl HS8.out.bl)).trans HSS8.out)
              obtain ⟨vs, hown, hall⟩ := HS5.out.rd
              have HOWN := Lib.hid hown
              have HALL := Lib.hid hall
              clear hown hall
              go_wp2_with (at_builtin; refine wpList_append_own_at _ rfl _ _ 60 rfl w1.heap.size 107 i0 .nilIface 1 16 Tryz.underlying60 hi0.out hz0 hz1 hz2 rfl (by decide) _ _ _ rfl HOWN.out ⟨w8.heap.size, 0, none⟩ 1 1 [.iface 94 (.agg #[.string (⟨#[46]⟩ ++ ph), .string pp, .bool true])] rfl rfl (cell_one _ _ _) (by intro u hu; simp at hu; subst hu; rfl) (by unfold maxLen; have := HL.out; omega) (by have := HL.out; omega) HS5.out.bl ?_; intro v' w5 hown' hgrow hnil hloc; obtain ⟨g', cap', rfl⟩ := own_slice hown'; obtain ⟨-, -, -, -, -, -, k', f'⟩ := (HS5.out.cbD hgrow).facts; have HOW := Lib.hid hown'; have HGR := Lib.hid hgrow; have HLC := Lib.hid hloc; clear hown' hgrow hloc hnil k6 k7 f0)
              exact ⟨⟨k + 1, is, ds ++ [.dom (⟨#[46]⟩ ++ ph) pp true], vI, _, by omega, by go_num, Lib.hid ⟨by have := HL.out; simp; omega, by have := HL.out; simp; omega⟩, Lib.hid (HS5.out.addD HMT.out HALL.out HOW.out HGR.out HLC.out), Lib.hid ((HS5.out.grownD HB5.out hB HGR.out).setCell hB _), Lib.hid ((HS5.out.sbD HGR.out hsl (by have := HSB.out; omega)).trans HSS5.out), Lib.hid (by rw [← HG1.out]; rfl)⟩, by simp [intOf]; omega⟩
        | err hs =>
          have HH := Lib.hid hs
          clear hs
          cases hc with
          | ip l hip =>
            have HIP := Lib.hid hip
            clear hip
            go_wp2_with fail
            refine (HH.out _).mono ?_
            rintro e w5 ⟨⟨ev5, rfl⟩, hb5⟩
            clear k6 k7 f0
            have HS5 := Lib.hid (HS4.out.below hb5)
            have HB5 := Lib.hid (HB4.out.trans (hb5.mono (HE.out.keep HB4.out).le))
            have HSS5 := Lib.hid ((hb5.block sb (Nat.lt_of_lt_of_le hsl HS4.out.bl)).trans HSS4.out)
            have HE5 := Lib.hid (HE.out.keep HB5.out)
            obtain ⟨-, -, -, -, -, k6, k7, f0⟩ := HS5.out.at_.facts
            have hcb5 : cb < w5.heap.size := blk_lt' HS5.out.at_
            clear hb5
            go_wp2_with fail
            refine (HIP.out _ HE5.out.env).mono ?_
            rintro e w6 ⟨b, hbb, rfl, hb6h, hb6⟩
            have HMT := Lib.hid (show MtAt (w6.alloc (.cells #[.iface 90 (.agg #[.slice (some ⟨b, 0, none⟩) 16 16, .string ⟨#[]⟩])] 107)) (Oth cb vI vD) (.ip l ⟨#[]⟩) (.iface 90 (.agg #[.slice (some ⟨b, 0, none⟩) 16 16, .string ⟨#[]⟩])) from (show MtAt w6 (Oth cb vI vD) (.ip l ⟨#[]⟩) (.iface 90 (.agg #[.slice (some ⟨b, 0, none⟩) 16 16, .string ⟨#[]⟩])) from ⟨b, HS5.out.fresh hbb, rfl, hb6h⟩).keep (fun k _ hk => heap_old _ _ k hk) (fun k ho _ => ho))
            clear hbb hb6h k6 k7 f0
            have HS6 := Lib.hid (HS5.out.below hb6)
            have HB6 := Lib.hid (HB5.out.trans (hb6.mono (HE.out.keep HB5.out).le))
            have HSS6 := Lib.hid ((hb6.block sb (Nat.lt_of_lt_of_le hsl HS5.out.bl)).trans HSS5.out)
            have HE6 := Lib.hid (HE.out.keep HB6.out)
            obtain ⟨-, -, -, -, -, k6, k7, f0⟩ := HS6.out.at_.facts
            have hcb6 : cb < w6.heap.size := blk_lt' HS6.out.at_
            clear hb6
            have HS5 := Lib.hid (HS6.out.below (below_alloc (Below.refl _ _) (.cells #[.iface 90 (.agg #[.slice (some ⟨b, 0, none⟩) 16 16, .string ⟨#[]⟩])] 107)))
            have HB5 := Lib.hid (bal HE.out HB6.out (.cells #[.iface 90 (.agg #[.slice (some ⟨b, 0, none⟩) 16 16, .string ⟨#[]⟩])] 107))
            have HSS5 := Lib.hid ((heap_old w6 (.cells #[.iface 90 (.agg #[.slice (some ⟨b, 0, none⟩) 16 16, .string ⟨#[]⟩])] 107) sb (Nat.lt_of_lt_of_le hsl HS6.out.bl)).trans HSS6.out)
            obtain ⟨vs, hown, hall⟩ := HS5.out.ri
            have HOWN := Lib.hid hown
            have HALL := Lib.hid hall
            clear hown hall
            go_wp2_with (at_builtin; refine wpList_append_own_at _ rfl _ _ 60 rfl w1.heap.size 107 i0 .nilIface 1 16 Tryz.underlying60 hi0.out hz0 hz1 hz2 rfl (by decide) _ _ _ rfl HOWN.out ⟨w6.heap.size, 0, none⟩ 1 1 [.iface 90 (.agg #[.slice (some ⟨b, 0, none⟩) 16 16, .string ⟨#[]⟩])] rfl rfl (cell_one _ _ _) (by intro u hu; simp at hu; subst hu; rfl) (by unfold maxLen; have := HL.out; omega) (by have := HL.out; omega) HS5.out.bl ?_; intro v' w5 hown' hgrow hnil hloc; obtain ⟨g', cap', rfl⟩ := own_slice hown'; obtain ⟨-, -, -, -, -, k', -, f'⟩ := (HS5.out.cbI hgrow).facts; have HOW := Lib.hid hown'; have HGR := Lib.hid hgrow; have HLC := Lib.hid hloc; clear hown' hgrow hloc hnil k6 k7 f0)
            exact ⟨⟨k + 1, is ++ [.ip l ⟨#[]⟩], ds, _, vD, by omega, by go_num, Lib.hid ⟨by have := HL.out; simp; omega, by have := HL.out; simp; omega⟩, Lib.hid (HS5.out.addI HMT.out HALL.out HOW.out HGR.out HLC.out), Lib.hid ((HS5.out.grown HB5.out hB HGR.out).setCell hB _), Lib.hid ((HS5.out.sbI HGR.out hsl (by have := HSB.out; omega)).trans HSS5.out), Lib.hid (by rw [← HG1.out]; rfl)⟩, by simp [intOf]; omega⟩
          | dom hip hd0 d mh hd hda hsz =>
            have HIP := Lib.hid hip
            clear hip
            have HDA := Lib.hid (fun (hz : d.size ≤ 140737488351232) wx => idna d wx hz hda)
            clear hda
            go_wp2_with fail
            refine (HH.out _).mono ?_
            rintro e w5 ⟨⟨ev5, rfl⟩, hb5⟩
            clear k6 k7 f0
            have HS5 := Lib.hid (HS4.out.below hb5)
            have HB5 := Lib.hid (HB4.out.trans (hb5.mono (HE.out.keep HB4.out).le))
            have HSS5 := Lib.hid ((hb5.block sb (Nat.lt_of_lt_of_le hsl HS4.out.bl)).trans HSS4.out)
            have HE5 := Lib.hid (HE.out.keep HB5.out)
            obtain ⟨-, -, -, -, -, k6, k7, f0⟩ := HS5.out.at_.facts
            have hcb5 : cb < w5.heap.size := blk_lt' HS5.out.at_
            clear hb5
            go_wp2_with fail
            refine (HIP.out _ HE5.out.env).mono ?_
            rintro e w6 ⟨rfl, hb6⟩
            clear k6 k7 f0
            have HS6 := Lib.hid (HS5.out.below hb6)
            have HB6 := Lib.hid (HB5.out.trans (hb6.mono (HE.out.keep HB5.out).le))
            have HSS6 := Lib.hid ((hb6.block sb (Nat.lt_of_lt_of_le hsl HS5.out.bl)).trans HSS5.out)
            have HE6 := Lib.hid (HE.out.keep HB6.out)
            obtain ⟨-, -, -, -, -, k6, k7, f0⟩ := HS6.out.at_.facts
            have hcb6 : cb < w6.heap.size := blk_lt' HS6.out.at_
            clear hb6
            cases hd with
            | star hpx hsz2 hx1 =>
              have HPX := Lib.hid (fun wx => (Tryz.strings_HasPrefix q ⟨#[42, 46]⟩ wx).mono fun _ _ (x : _ = Ending.returned (.bool (Lib.hasPrefix q.data.toList [42, 46])) ∧ _) => And.intro (x.1.trans (by rw [hpx])) x.2.symm)
              clear hpx
              have hx2 : ∀ h, (((q.extract 1 q.size)[0]'h).toNat : Int) = 46 := fun h => by simpa [ByteArray.getElem_extract] using hx1
              have hszd : (q.extract 1 q.size).size ≤ 140737488351232 := by simp; omega
              have HDZ := Lib.hid (HDA.out hszd)
              clear hszd
              go_wp2_with (go_at_call 51; refine (HPX.out _).mono ?_; rintro e w7 ⟨rfl, rfl⟩)
              refine (HDZ.out _).mono ?_
              rintro e w8 ⟨rfl, hb8⟩
              have HMT := Lib.hid (show MtAt (w8.alloc (.cells #[.iface 94 (.agg #[.string (q.extract 1 q.size), .string ⟨#[]⟩, .bool false])] 107)) (Oth cb vI vD) (.dom (q.extract 1 q.size) ⟨#[]⟩ false) (.iface 94 (.agg #[.string (q.extract 1 q.size), .string ⟨#[]⟩, .bool false])) from rfl)
              clear k6 k7 f0
              have HS8 := Lib.hid (HS6.out.below hb8)
              have HB8 := Lib.hid (HB6.out.trans (hb8.mono (HE.out.keep HB6.out).le))
              have HSS8 := Lib.hid ((hb8.block sb (Nat.lt_of_lt_of_le hsl HS6.out.bl)).trans HSS6.out)
              have HE8 := Lib.hid (HE.out.keep HB8.out)
              obtain ⟨-, -, -, -, -, k6, k7, f0⟩ := HS8.out.at_.facts
              have hcb8 : cb < w8.heap.size := blk_lt' HS8.out.at_
              clear hb8
              have HS5 := Lib.hid (HS8.out.below (below_alloc (Below.refl _ _) (.cells #[.iface 94 (.agg #[.string (q.extract 1 q.size), .string ⟨#[]⟩, .bool false])] 107)))
              have HB5 := Lib.hid (bal HE.out HB8.out (.cells #[.iface 94 (.agg #[.string (q.extract 1 q.size), .string ⟨#[]⟩, .bool false])] 107))
              have HSS5 := Lib.hid ((heap_old w8 (.cells #[.iface 94 (.agg #[.string (q.extract 1 q.size), .string ⟨#[]⟩, .bool false])] 107) sb (Nat.lt_of_lt_of_le hsl HS8.out.bl)).trans HSS8.out)
              obtain ⟨vs, hown, hall⟩ := HS5.out.rd
              have HOWN := Lib.hid hown
              have HALL := Lib.hid hall
              clear hown hall
              go_wp2_with (at_builtin; refine wpList_append_own_at _ rfl _ _ 60 rfl w1.heap.size 107 i0 .nilIface 1 16 Tryz.underlying60 hi0.out hz0 hz1 hz2 rfl (by decide) _ _ _ rfl HOWN.out ⟨w8.heap.size, 0, none⟩ 1 1 [.iface 94 (.agg #[.string (q.extract 1 q.size), .string ⟨#[]⟩, .bool false])] rfl rfl (cell_one _ _ _) (by intro u hu; simp at hu; subst hu; rfl) (by unfold maxLen; have := HL.out; omega) (by have := HL.out; omega) HS5.out.bl ?_; intro v' w5 hown' hgrow hnil hloc; obtain ⟨g', cap', rfl⟩ := own_slice hown'; obtain ⟨-, -, -, -, -, -, k', f'⟩ := (HS5.out.cbD hgrow).facts; have HOW := Lib.hid hown'; have HGR := Lib.hid hgrow; have HLC := Lib.hid hloc; clear hown' hgrow hloc hnil k6 k7 f0)
              exact ⟨⟨k + 1, is, ds ++ [.dom (q.extract 1 q.size) ⟨#[]⟩ false], vI, _, by omega, by go_num, Lib.hid ⟨by have := HL.out; simp; omega, by have := HL.out; simp; omega⟩, Lib.hid (HS5.out.addD HMT.out HALL.out HOW.out HGR.out HLC.out), Lib.hid ((HS5.out.grownD HB5.out hB HGR.out).setCell hB _), Lib.hid ((HS5.out.sbD HGR.out hsl (by have := HSB.out; omega)).trans HSS5.out), Lib.hid (by rw [← HG1.out]; rfl)⟩, by simp [intOf]; omega⟩
            | dot hpx hsz2 hx1 =>
              have HPX := Lib.hid (fun wx => (Tryz.strings_HasPrefix q ⟨#[42, 46]⟩ wx).mono fun _ _ (x : _ = Ending.returned (.bool (Lib.hasPrefix q.data.toList [42, 46])) ∧ _) => And.intro (x.1.trans (by rw [hpx])) x.2.symm)
              clear hpx
              have hszd : q.size ≤ 140737488351232 := by omega
              have HDZ := Lib.hid (HDA.out hszd)
              clear hszd
              go_wp2_with (go_at_call 51; refine (HPX.out _).mono ?_; rintro e w7 ⟨rfl, rfl⟩)
              refine (HDZ.out _).mono ?_
              rintro e w8 ⟨rfl, hb8⟩
              have HMT := Lib.hid (show MtAt (w8.alloc (.cells #[.iface 94 (.agg #[.string q, .string ⟨#[]⟩, .bool false])] 107)) (Oth cb vI vD) (.dom q ⟨#[]⟩ false) (.iface 94 (.agg #[.string q, .string ⟨#[]⟩, .bool false])) from rfl)
              clear k6 k7 f0
              have HS8 := Lib.hid (HS6.out.below hb8)
              have HB8 := Lib.hid (HB6.out.trans (hb8.mono (HE.out.keep HB6.out).le))
              have HSS8 := Lib.hid ((hb8.block sb (Nat.lt_of_lt_of_le hsl HS6.out.bl)).trans HSS6.out)
              have HE8 := Lib.hid (HE.out.keep HB8.out)
              obtain ⟨-, -, -, -, -, k6, k7, f0⟩ := HS8.out.at_.facts
              have hcb8 : cb < w8.heap.size := blk_lt' HS8.out.at_
              clear hb8
              have HS5 := Lib.hid (HS8.out.below (below_alloc (Below.refl _ _) (.cells #[.iface 94 (.agg #[.string q, .string ⟨#[]⟩, .bool false])] 107)))
              have HB5 := Lib.hid (bal HE.out HB8.out (.cells #[.iface 94 (.agg #[.string q, .string ⟨#[]⟩, .bool false])] 107))
              have HSS5 := Lib.hid ((heap_old w8 (.cells #[.iface 94 (.agg #[.string q, .string ⟨#[]⟩, .bool false])] 107) sb (Nat.lt_of_lt_of_le hsl HS8.out.bl)).trans HSS8.out)
              obtain ⟨vs, hown, hall⟩ := HS5.out.rd
              have HOWN := Lib.hid hown
              have HALL := Lib.hid hall
              clear hown hall
              go_wp2_with (at_builtin; refine wpList_append_own_at _ rfl _ _ 60 rfl w1.heap.size 107 i0 .nilIface 1 16 Tryz.underlying60 hi0.out hz0 hz1 hz2 rfl (by decide) _ _ _ rfl HOWN.out ⟨w8.heap.size, 0, none⟩ 1 1 [.iface 94 (.agg #[.string q, .string ⟨#[]⟩, .bool false])] rfl rfl (cell_one _ _ _) (by intro u hu; simp at hu; subst hu; rfl) (by unfold maxLen; have := HL.out; omega) (by have := HL.out; omega) HS5.out.bl ?_; intro v' w5 hown' hgrow hnil hloc; obtain ⟨g', cap', rfl⟩ := own_slice hown'; obtain ⟨-, -, -, -, -, -, k', f'⟩ := (HS5.out.cbD hgrow).facts; have HOW := Lib.hid hown'; have HGR := Lib.hid hgrow; have HLC := Lib.hid hloc; clear hown' hgrow hloc hnil k6 k7 f0)
              exact ⟨⟨k + 1, is, ds ++ [.dom q ⟨#[]⟩ false], vI, _, by omega, by go_num, Lib.hid ⟨by have := HL.out; simp; omega, by have := HL.out; simp; omega⟩, Lib.hid (HS5.out.addD HMT.out HALL.out HOW.out HGR.out HLC.out), Lib.hid ((HS5.out.grownD HB5.out hB HGR.out).setCell hB _), Lib.hid ((HS5.out.sbD HGR.out hsl (by have := HSB.out; omega)).trans HSS5.out), Lib.hid (by rw [← HG1.out]; rfl)⟩, by simp [intOf]; omega⟩
            | name hpx hsz2 x' hx1 hx' =>
              have HPX := Lib.hid (fun wx => (Tryz.strings_HasPrefix q ⟨#[42, 46]⟩ wx).mono fun _ _ (x : _ = Ending.returned (.bool (Lib.hasPrefix q.data.toList [42, 46])) ∧ _) => And.intro (x.1.trans (by rw [hpx])) x.2.symm)
              clear hpx
              have hszd : (⟨#[46]⟩ ++ q : ByteArray).size ≤ 140737488351232 := by simp [ByteArray.size_append]; show 1 + _ ≤ _; omega
              have HDZ := Lib.hid (HDA.out hszd)
              clear hszd
              go_wp2_with (go_at_call 51; refine (HPX.out _).mono ?_; rintro e w7 ⟨rfl, rfl⟩)
              refine (HDZ.out _).mono ?_
              rintro e w8 ⟨rfl, hb8⟩
              have HMT := Lib.hid (show MtAt (w8.alloc (.cells #[.iface 94 (.agg #[.string (⟨#[46]⟩ ++ q), .string ⟨#[]⟩, .bool true])] 107)) (Oth cb vI vD) (.dom (⟨#[46]⟩ ++ q) ⟨#[]⟩ true) (.iface 94 (.agg #[.string (⟨#[46]⟩ ++ q), .string ⟨#[]⟩, .bool true])) from rfl)
              clear k6 k7 f0
              have HS8 := Lib.hid (HS6.out.below hb8)
              have HB8 := Lib.hid (HB6.out.trans (hb8.mono (HE.out.keep HB6.out).le))
              have HSS8 := Lib.hid ((hb8.block sb (Nat.lt_of_lt_of_le hsl HS6.out.bl)).trans HSS6.out)
              have HE8 := Lib.hid (HE.out.keep HB8.out)
              obtain ⟨-, -, -, -, -, k6, k7, f0⟩ := HS8.out.at_.facts
              have hcb8 : cb < w8.heap.size := blk_lt' HS8.out.at_
              clear hb8
              have HS5 := Lib.hid (HS8.out.below (below_alloc (Below.refl _ _) (.cells #[.iface 94 (.agg #[.string (⟨#[46]⟩ ++ q), .string ⟨#[]⟩, .bool true])] 107)))
              have HB5 := Lib.hid (bal HE.out HB8.out (.cells #[.iface 94 (.agg #[.string (⟨#[46]⟩ ++ q), .string ⟨#[]⟩, .bool true])] 107))
              have HSS5 := Lib.hid ((heap_old w8 (.cells #[.iface 94 (.agg #[.string (⟨#[46]⟩ ++ q), .string ⟨#[]⟩, .bool true])] 107) sb (Nat.lt_of_lt_of_le hsl HS8.out.bl)).trans HSS8.out)
              obtain ⟨vs, hown, hall⟩ := HS5.out.rd
              have HOWN := Lib.hid hown
              have HALL := Lib.hid hall
              clear hown hall
              go_wp2_with (at_builtin; refine wpList_append_own_at _ rfl _ _ 60 rfl w1.heap.size 107 i0 .nilIface 1 16 Tryz.underlying60 hi0.out hz0 hz1 hz2 rfl (by decide) _ _ _ rfl HOWN.out ⟨w8.heap.size, 0, none⟩ 1 1 [.iface 94 (.agg #[.string (⟨#[46]⟩ ++ q), .string ⟨#[]⟩, .bool true])] rfl rfl (cell_one _ _ _) (by intro u hu; simp at hu; subst hu; rfl) (by unfold maxLen; have := HL.out; omega) (by have := HL.out; omega) HS5.out.bl ?_; intro v' w5 hown' hgrow hnil hloc; obtain ⟨g', cap', rfl⟩ := own_slice hown'; obtain ⟨-, -, -, -, -, -, k', f'⟩ := (HS5.out.cbD hgrow).facts; have HOW := Lib.hid hown'; have HGR := Lib.hid hgrow; have HLC := Lib.hid hloc; clear hown' hgrow hloc hnil k6 k7 f0)
              exact ⟨⟨k + 1, is, ds ++ [.dom (⟨#[46]⟩ ++ q) ⟨#[]⟩ true], vI, _, by omega, by go_num, Lib.hid ⟨by have := HL.out; simp; omega, by have := HL.out; simp; omega⟩, Lib.hid (HS5.out.addD HMT.out HALL.out HOW.out HGR.out HLC.out), Lib.hid ((HS5.out.grownD HB5.out hB HGR.out).setCell hB _), Lib.hid ((HS5.out.sbD HGR.out hsl (by have := HSB.out; omega)).trans HSS5.out), Lib.hid (by rw [← HG1.out]; rfl)⟩, by simp [intOf]; omega⟩
    · go_wp2
      go_returns
      have hkn : k = es.length := by omega
      exact ⟨rfl, HB.out, vI, vD, w1.heap.size, by
        have h1 := HG.out
        rw [List.drop_of_length_le (by rw [← HN.out.len]; omega)] at h1
        rw [← h1]
        exact HS.out⟩
end Go.Proofs.YtpemdpfageikfaaGreatDoor.R
