/- ParseIP; SplitHostPort. -/
import Derived.Test.YtpemdpfageikfaaGreatDoorZE
import Derived.Deep.CutBlock
import Derived.Test.YtpemdpfageikfaaGreatDoorZA
set_option linter.unusedVariables false
set_option linter.unusedSimpArgs false
/- parseIP and ParseIP, by what ParseAddr does. -/
namespace Go.Proofs.YtpemdpfageikfaaGreatDoor.R
open Go.RowKit Go.Proofs.YtpemdpfageikfaaGreatDoorW.PrintWords Go.Proofs.YtpemdpfageikfaaGreatDoorW.PrintLast Go.Proofs.YtpemdpfageikfaaGreatDoorW.PrintMore

def In64 (x : Int) : Prop := 0 ≤ x ∧ x < 18446744073709551616
/-- The sixteen bytes of an address. -/
def b16 (a : Bool × Int × Int) : List Int := bytes64 a.2.1 ++ bytes64 a.2.2
theorem zone_ad (a : Bool × Int × Int) (p4 p6 : Addr) (w : World) (hE : Env w p4 p6) :
    Calls Tryz.prog 73 #[.agg #[.int .u64 a.2.1, .int .u64 a.2.2, .pointer (some (bif a.1 then p6 else p4))]] w fun e w' => e = .returned (.string ⟨#[]⟩) ∧ Below w.heap.size w w' := by
  refine (zone_of a.2.1 a.2.2 _ p4 p6 w hE (by cases a.1 <;> simp)).mono ?_
  rintro e w' ⟨rfl, b, rfl⟩
  exact ⟨rfl, by go_grown⟩
theorem as16_ad (a : Bool × Int × Int) (p : Addr) (w : World) (h1 : In64 a.2.1) (h2 : In64 a.2.2) :
    ∃ b0 b1 b2 b3 b4 b5 b6 b7 b8 b9 b10 b11 b12 b13 b14 b15, b16 a = [b0, b1, b2, b3, b4, b5, b6, b7, b8, b9, b10, b11, b12, b13, b14, b15] ∧
    Calls Tryz.prog 77 #[.agg #[.int .u64 a.2.1, .int .u64 a.2.2, .pointer (some p)]] w fun e w' => e = .returned (.agg #[.int .u8 b0, .int .u8 b1, .int .u8 b2, .int .u8 b3, .int .u8 b4, .int .u8 b5, .int .u8 b6, .int .u8 b7, .int .u8 b8, .int .u8 b9, .int .u8 b10, .int .u8 b11, .int .u8 b12, .int .u8 b13, .int .u8 b14, .int .u8 b15]) ∧ Below w.heap.size w w' :=
  ⟨_, _, _, _, _, _, _, _, _, _, _, _, _, _, _, _, rfl, as16 a.2.1 a.2.2 p w h1.1 h1.2 h2.1 h2.2⟩

/-- What the walk asks of a block that is put anew. -/
theorem put_rules {w : World} {b : Nat} {T : TypeId} (h : b < w.heap.size) :
    (∀ l k v, (put w b l T).setCell ⟨b, k, none⟩ (.int .u8 v) = put w b (l.set k v) T) ∧ (∀ l k, (put w b l T).cell? ⟨b, k, none⟩ = (l[k]?).map (Value.int .u8)) ∧ (∀ l k, (put w b l T).frozen? ⟨b, k, none⟩ = false) :=
  ⟨fun l k v => put_set h k v, fun l k => by simp [World.cell?, put_at h, nums], fun l k => put_froz h k⟩
theorem is_put {W w1 : World} {b : Nat} {T : TypeId} (hb : Below W.heap.size W w1) (h : W.heap[b]? = some (.cells #[.int .u8 0, .int .u8 0, .int .u8 0, .int .u8 0, .int .u8 0, .int .u8 0, .int .u8 0, .int .u8 0, .int .u8 0, .int .u8 0, .int .u8 0, .int .u8 0, .int .u8 0, .int .u8 0, .int .u8 0, .int .u8 0] T (0, 0))) :
    b < w1.heap.size ∧ w1 = put w1 b [0, 0, 0, 0, 0, 0, 0, 0, 0, 0, 0, 0, 0, 0, 0, 0] T := by
  have h1 := (hb.block b (blk_lt' h)).trans h
  exact ⟨blk_lt' h1, (put_self h1).symm⟩

set_option maxHeartbeats 1000000 in
theorem parseIP_no (s : ByteArray) (p4 p6 : Addr) (w : World) (hE : Env w p4 p6)
    (hPA : ∀ wx, Env wx p4 p6 → Calls Tryz.prog 53 #[.string s] wx (PostPA p4 p6 wx none)) :
    Calls Tryz.prog 82 #[.string s] w fun e w' => e = .returned (.tuple #[.agg #[.int .u8 0, .int .u8 0, .int .u8 0, .int .u8 0, .int .u8 0, .int .u8 0, .int .u8 0, .int .u8 0, .int .u8 0, .int .u8 0, .int .u8 0, .int .u8 0, .int .u8 0, .int .u8 0, .int .u8 0, .int .u8 0], .bool false]) ∧ Below w.heap.size w w' := by
  have HE := Lib.hid (hE.alloc)
  have HP := Lib.hid hPA
  clear hE hPA
  go_enter Tryz.func82, Tryz.ntmps82
  go_wp2_with fail
  refine (HP.out _ (HE.out _)).mono ?_
  rintro e w1 ⟨hb, ev, rfl⟩
  have HB := Lib.hid (blw (show Below w.heap.size w _ from by go_grown) hb)
  have HB1 := Lib.hid hb
  clear hb
  go_upto_region 3 with fail
  obtain ⟨hlt, he⟩ := is_put (below_alloc HB1.out (Obj.cells #[Value.int IntKind.u64 0, Value.int IntKind.u64 0, Value.pointer none] 102)) (heap_new _ _)
  have HB2 := Lib.hid (below_alloc HB.out (Obj.cells #[Value.int IntKind.u64 0, Value.int IntKind.u64 0, Value.pointer none] 102))
  generalize w1.alloc (Obj.cells #[Value.int IntKind.u64 0, Value.int IntKind.u64 0, Value.pointer none] 102) = W at hlt he HB2 ⊢
  rw [he]
  obtain ⟨P, C, F⟩ := put_rules (T := 28) hlt
  clear he HB1
  go_wp2
  refine bodyPost_ret (by simp [results, Tryz.results82, go_sem, C]; try rfl) rfl ?_
  exact ⟨rfl, put_below HB2.out (Nat.le_refl _)⟩
set_option maxHeartbeats 4000000 in
theorem parseIP_yes (s : ByteArray) (a : Bool × Int × Int) (p4 p6 : Addr) (w : World) (hE : Env w p4 p6) (h1 : In64 a.2.1) (h2 : In64 a.2.2)
    (hPA : ∀ wx, Env wx p4 p6 → Calls Tryz.prog 53 #[.string s] wx (PostPA p4 p6 wx (some a))) :
    Calls Tryz.prog 82 #[.string s] w fun e w' => e = .returned (.tuple #[.agg (nums .u8 (b16 a)).toArray, .bool true]) ∧ Below w.heap.size w w' := by
  have HE := Lib.hid (fun wx (hb : Below w.heap.size w wx) => hE.below hb)
  have HP := Lib.hid hPA
  obtain ⟨b0, b1, b2, b3, b4, b5, b6, b7, b8, b9, b10, b11, b12, b13, b14, b15, h16, -⟩ := as16_ad a p4 w h1 h2
  have HA := Lib.hid (fun wx => as16 a.2.1 a.2.2 (bif a.1 then p6 else p4) wx h1.1 h1.2 h2.1 h2.2)
  have HZ := Lib.hid (fun wx hb => zone_ad a p4 p6 wx (HE.out wx hb))
  have H16 := Lib.hid h16
  clear hE hPA h1 h2 h16
  go_enter Tryz.func82, Tryz.ntmps82
  go_wp2_with fail
  refine (HP.out _ (HE.out _ (by go_grown))).mono ?_
  rintro e w1 ⟨hb, rfl⟩
  have HB1 := Lib.hid (blw (show Below w.heap.size w _ from by go_grown) hb)
  have HB0 := Lib.hid hb
  clear hb
  unfold adVal
  go_wp2_with fail
  refine (HZ.out _ (below_alloc HB1.out _)).mono ?_
  rintro e w2 ⟨rfl, hb⟩
  have k0 : w2.cell? ⟨w1.heap.size, 0, none⟩ = some (.int .u64 a.2.1) := pw_cell_below hb (by simp)
  have k1 : w2.cell? ⟨w1.heap.size, 1, none⟩ = some (.int .u64 a.2.2) := pw_cell_below hb (by simp)
  have k2 : w2.cell? ⟨w1.heap.size, 2, none⟩ = some (.pointer (some (bif a.1 then p6 else p4))) := pw_cell_below hb (by simp)
  have HB2 := Lib.hid (blw (below_alloc HB1.out _) hb)
  have HB20 := Lib.hid (Below.trans (below_alloc HB0.out _) (hb.mono (Nat.le_trans HB0.out.size (by simp))))
  clear hb
  go_wp2_with fail
  refine (HA.out _).mono ?_
  rintro e w3 ⟨rfl, hb⟩
  have HB3 := Lib.hid (blw HB2.out hb)
  obtain ⟨hlt, he⟩ := is_put (Below.trans HB20.out (hb.mono (by have := HB20.out.size; omega))) (heap_new _ _)
  clear hb
  rw [show bytes64 a.2.1 ++ bytes64 a.2.2 = b16 a from rfl, H16.out, show (nums .u8 [b0, b1, b2, b3, b4, b5, b6, b7, b8, b9, b10, b11, b12, b13, b14, b15]).toArray = #[.int .u8 b0, .int .u8 b1, .int .u8 b2, .int .u8 b3, .int .u8 b4, .int .u8 b5, .int .u8 b6, .int .u8 b7, .int .u8 b8, .int .u8 b9, .int .u8 b10, .int .u8 b11, .int .u8 b12, .int .u8 b13, .int .u8 b14, .int .u8 b15] from rfl]
  rw [he]
  obtain ⟨P, C, F⟩ := put_rules (T := 28) hlt
  have HB := Lib.hid (put_below (l := [b0, b1, b2, b3, b4, b5, b6, b7, b8, b9, b10, b11, b12, b13, b14, b15]) (T := 28) HB3.out (Nat.le_refl _))
  clear he HB20 HB2 HB3
  go_wp2
  refine bodyPost_ret (by simp [results, Tryz.results82, go_sem, C]; try rfl) rfl ?_
  exact ⟨by rw [H16.out]; rfl, HB.out⟩
end Go.Proofs.YtpemdpfageikfaaGreatDoor.R
/- ParseIP, by what ParseAddr does. -/
namespace Go.Proofs.YtpemdpfageikfaaGreatDoor.R
open Go.RowKit Go.Proofs.YtpemdpfageikfaaGreatDoorW.PrintWords Go.Proofs.YtpemdpfageikfaaGreatDoorW.PrintLast Go.Proofs.YtpemdpfageikfaaGreatDoorW.PrintMore

set_option maxHeartbeats 1000000 in
theorem ParseIP_no (s : ByteArray) (p4 p6 : Addr) (w : World) (hE : Env w p4 p6)
    (hPA : ∀ wx, Env wx p4 p6 → Calls Tryz.prog 53 #[.string s] wx (PostPA p4 p6 wx none)) :
    Calls Tryz.prog 50 #[.string s] w fun e w' => e = .returned (.slice none 0 0) ∧ Below w.heap.size w w' := by
  have HP := Lib.hid (parseIP_no s p4 p6 w hE hPA)
  clear hE hPA
  go_enter Tryz.func50, Tryz.ntmps50
  go_wp2_with fail
  refine HP.out.mono ?_
  rintro e w1 ⟨rfl, hb⟩
  have HB := Lib.hid hb
  clear hb
  go_wp2
  go_ret
  exact ⟨rfl, below_alloc HB.out _⟩
set_option maxHeartbeats 4000000 in
theorem ParseIP_yes (s : ByteArray) (a : Bool × Int × Int) (p4 p6 : Addr) (w : World) (hE : Env w p4 p6) (h1 : In64 a.2.1) (h2 : In64 a.2.2)
    (hPA : ∀ wx, Env wx p4 p6 → Calls Tryz.prog 53 #[.string s] wx (PostPA p4 p6 wx (some a))) :
    Calls Tryz.prog 50 #[.string s] w fun e w' => ∃ b, w.heap.size ≤ b ∧ e = .returned (.slice (some ⟨b, 0, none⟩) 16 16) ∧ w'.heap[b]? = some (.cells (nums .u8 (b16 a)).toArray 28 (0, 0)) ∧ Below w.heap.size w w' := by
  obtain ⟨b0, b1, b2, b3, b4, b5, b6, b7, b8, b9, b10, b11, b12, b13, b14, b15, h16, -⟩ := as16_ad a p4 w h1 h2
  have HP := Lib.hid (parseIP_yes s a p4 p6 w hE h1 h2 hPA)
  rw [h16]
  rw [h16, show (nums .u8 [b0, b1, b2, b3, b4, b5, b6, b7, b8, b9, b10, b11, b12, b13, b14, b15]).toArray = #[.int .u8 b0, .int .u8 b1, .int .u8 b2, .int .u8 b3, .int .u8 b4, .int .u8 b5, .int .u8 b6, .int .u8 b7, .int .u8 b8, .int .u8 b9, .int .u8 b10, .int .u8 b11, .int .u8 b12, .int .u8 b13, .int .u8 b14, .int .u8 b15] from rfl] at HP
  clear hE hPA h1 h2
  go_enter Tryz.func50, Tryz.ntmps50
  go_wp2_with fail
  refine HP.out.mono ?_
  rintro e w1 ⟨rfl, hb⟩
  have HB := Lib.hid hb
  clear hb
  go_wp2
  go_ret
  exact ⟨w1.heap.size, HB.out.size, rfl, by rw [heap_new]; rfl, below_alloc HB.out _⟩
end Go.Proofs.YtpemdpfageikfaaGreatDoor.R
/- SplitHostPort. -/
namespace Go.Proofs.YtpemdpfageikfaaGreatDoor.R
open Go.RowKit Go.Proofs.YtpemdpfageikfaaGreatDoorW.PrintWords Go.Proofs.YtpemdpfageikfaaGreatDoorW.PrintLast Go.Proofs.YtpemdpfageikfaaGreatDoorW.PrintMore

/-- A text that is no host with a port. -/
def NoHost (w : World) (e : Ending) (w' : World) : Prop := (∃ ev, e = .returned (.tuple #[.string ⟨#[]⟩, .string ⟨#[]⟩, .iface 138 ev])) ∧ Below w.heap.size w w'
theorem addrErr (s why : ByteArray) (w : World) : Calls Tryz.prog 79 #[.string s, .string why] w (NoHost w) := by
  go_enter Tryz.func79, Tryz.ntmps79
  go_wp2
  go_returns
  exact ⟨⟨_, rfl⟩, by go_grown⟩
theorem lib_li {s : ByteArray} {c r : Int} (hs : s.size ≤ 140737488351232) (h : Lib.lastIndexByte s c = r) (w : World) : Calls Tryz.prog 80 #[.string s, .int .u8 c] w fun e w' => e = .returned (.int .i64 r) ∧ w = w' :=
  (Tryz.strings_LastIndexByte s c (by omega) w).mono fun _ _ x => ⟨x.1.trans (by rw [h]), x.2.symm⟩
theorem lib_ib {s : ByteArray} {c r : Int} (h : Lib.indexByte s.data.toList c.toNat.toUInt8 = r) (w : World) : Calls Tryz.prog 81 #[.string s, .int .u8 c] w fun e w' => e = .returned (.int .i64 r) ∧ w = w' :=
  (Tryz.strings_IndexByte s c w).mono fun _ _ x => ⟨x.1.trans (by rw [h]), x.2.symm⟩
theorem split_no (s : ByteArray) (w : World) (hs : s.size ≤ 140737488351232) (h : Lib.lastIndexByte s 58 = -1) : Calls Tryz.prog 49 #[.string s] w (NoHost w) := by
  have C := Lib.hid (lib_li hs h)
  have D := Lib.hid (addrErr s)
  clear h
  go_enter Tryz.func49, Tryz.ntmps49
  go_wp2_with (first | (go_at_call 80; refine (C.out _).mono ?_; rintro e w1 ⟨rfl, rfl⟩) | (go_at_call 79; refine (D.out _ _).mono ?_; rintro e w1 ⟨⟨ev, rfl⟩, hb⟩))
  have HB := Lib.hid hb
  clear hb
  go_wp2
  go_returns
  exact ⟨⟨_, rfl⟩, HB.out⟩
theorem split_many (s : ByteArray) (n : Nat) (m : Int) (w : World) (hs : s.size ≤ 140737488351232) (h : Lib.lastIndexByte s 58 = n) (hn : n < s.size) (x : Int) (h0 : ((s[0]'(by omega)).toNat : Int) = x) (hx : (x == 91) = false) (h2 : Lib.indexByte (s.extract 0 n).data.toList 58 = m) (hm : 0 ≤ m) :
    Calls Tryz.prog 49 #[.string s] w (NoHost w) := by
  have C := Lib.hid (lib_li hs h)
  have D := Lib.hid (addrErr s)
  have E := Lib.hid (lib_ib (s := s.extract 0 n) (c := 58) h2)
  have hs0 : 0 < s.size := by omega
  clear h h2
  go_enter Tryz.func49, Tryz.ntmps49
  go_wp2_with (first | (go_at_call 80; refine (C.out _).mono ?_; rintro e w1 ⟨rfl, rfl⟩) | (go_at_call 79; refine (D.out _ _).mono ?_; rintro e w1 ⟨⟨ev, rfl⟩, hb⟩) | (go_at_call 81; refine (E.out _).mono ?_; rintro e w1 ⟨rfl, rfl⟩))
  have HB := Lib.hid hb
  clear hb
  go_wp2
  go_returns
  exact ⟨⟨_, rfl⟩, HB.out⟩
/-- A host with a port. -/
def Host (w : World) (h p : ByteArray) (e : Ending) (w' : World) : Prop := e = .returned (.tuple #[.string h, .string p, .nilIface]) ∧ w = w'
theorem ex_all (s : ByteArray) : s.extract 0 s.size = s := by
  apply ByteArray.ext
  simp
theorem split_one (s : ByteArray) (n : Nat) (w : World) (hs : s.size ≤ 140737488351232) (h : Lib.lastIndexByte s 58 = n) (hn : n < s.size) (x : Int) (h0 : ((s[0]'(by omega)).toNat : Int) = x) (hx : (x == 91) = false) (h2 : Lib.indexByte (s.extract 0 n).data.toList 58 = -1) (h3 : Lib.indexByte s.data.toList 91 = -1) (h4 : Lib.indexByte s.data.toList 93 = -1) :
    Calls Tryz.prog 49 #[.string s] w (Host w (s.extract 0 n) (s.extract (n + 1) s.size)) := by
  have C := Lib.hid (lib_li hs h)
  have E := Lib.hid (lib_ib (s := s.extract 0 n) (c := 58) h2)
  have F := Lib.hid (lib_ib (s := s) (c := 91) (r := -1) h3)
  have G := Lib.hid (lib_ib (s := s) (c := 93) (r := -1) h4)
  have hs0 : 0 < s.size := by omega
  clear h h2 h3 h4
  go_enter Tryz.func49, Tryz.ntmps49
  go_wp2_with (first | (go_at_call 80; refine (C.out _).mono ?_; rintro e w1 ⟨rfl, rfl⟩) | (go_at_call 81; (with_reducible refine (E.out _).mono ?_); rintro e w1 ⟨rfl, rfl⟩) | (go_at_call 81; (with_reducible refine (F.out _).mono ?_); rintro e w1 ⟨rfl, rfl⟩) | (go_at_call 81; (with_reducible refine (G.out _).mono ?_); rintro e w1 ⟨rfl, rfl⟩))
  go_returns
  exact ⟨rfl, rfl⟩
theorem split_br (s : ByteArray) (n m : Nat) (w : World) (hs : s.size ≤ 140737488351232) (h : Lib.lastIndexByte s 58 = n) (hn : n < s.size) (h0 : ((s[0]'(by omega)).toNat : Int) = 91) (h2 : Lib.indexByte s.data.toList 93 = m) (hmn : m + 1 = n) (hm1 : 1 ≤ m) (h3 : Lib.indexByte (s.extract 1 s.size).data.toList 91 = -1) (h4 : Lib.indexByte (s.extract (m + 1) s.size).data.toList 93 = -1) :
    Calls Tryz.prog 49 #[.string s] w (Host w (s.extract 1 m) (s.extract (n + 1) s.size)) := by
  have C := Lib.hid (lib_li hs h)
  have E := Lib.hid (lib_ib (s := s) (c := 93) h2)
  have F := Lib.hid (lib_ib (s := s.extract 1 s.size) (c := 91) h3)
  have G := Lib.hid (lib_ib (s := s.extract (m + 1) s.size) (c := 93) h4)
  have hs0 : 0 < s.size := by omega
  subst hmn
  clear h h2 h3 h4
  go_enter Tryz.func49, Tryz.ntmps49
  go_wp2_with (first | (go_at_call 80; refine (C.out _).mono ?_; rintro e w1 ⟨rfl, rfl⟩) | (go_at_call 81; (with_reducible refine (E.out _).mono ?_); rintro e w1 ⟨rfl, rfl⟩) | (go_at_call 81; (with_reducible refine (F.out _).mono ?_); rintro e w1 ⟨rfl, rfl⟩) | (go_at_call 81; (with_reducible refine (G.out _).mono ?_); rintro e w1 ⟨rfl, rfl⟩))
  go_returns
  exact ⟨rfl, rfl⟩
end Go.Proofs.YtpemdpfageikfaaGreatDoor.R
