/- The program and the reference say the same. -/
import Derived.Test.YtpemdpfageikfaaGreatDoorZM
import Derived.Test.YtpemdpfageikfaaGreatDoorZI
import Derived.Test.YtpemdpfageikfaaGreatDoorZJ
import Derived.Test.YtpemdpfageikfaaGreatDoorZF
import Derived.Test.YtpemdpfageikfaaGreatDoorZG
import Derived.Test.YtpemdpfageikfaaGreatDoorZK
set_option linter.unusedVariables false
set_option linter.unusedSimpArgs false
/- What an entry of a list comes to, and what its rules say: by the program as by the reference. -/
namespace Go.Proofs.YtpemdpfageikfaaGreatDoor.R
open Go.RowKit Go.Proofs.YtpemdpfageikfaaGreatDoorW.PrintWords Go.Proofs.YtpemdpfageikfaaGreatDoorW.PrintLast Go.Proofs.YtpemdpfageikfaaGreatDoorW.PrintMore

/-! ParseAddr of a text with one colon at most. -/
theorem cnt_count (l : List UInt8) : l.count 58 = cnt 58 l := by
  unfold cnt List.count
  refine List.countP_congr fun x _ => ?_
  rw [beq_iff_eq, beq_iff_eq]
  exact ⟨fun e => by rw [e]; rfl, fun e => UInt8.toNat_inj.1 e⟩
theorem dbl_few : ∀ l : List UInt8, cnt 58 l ≤ 1 → dbl l = false
  | [], _ => rfl
  | [_], _ => rfl
  | a :: b :: r, h => by
    rw [dbl]
    have h2 : cnt 58 (b :: r) ≤ 1 := by rw [cnt_cons] at h; omega
    rw [dbl_few (b :: r) h2, Bool.or_false]
    rw [cnt_cons, cnt_cons] at h
    by_cases ha : a.toNat = 58
    · by_cases hb : b.toNat = 58
      · rw [if_pos ha, if_pos hb] at h; omega
      · simp [hb]
    · simp [ha]
theorem good_few (t : ByteArray) (h : cnt 58 t.data.toList ≤ 1) : Good6 t none := by
  refine ⟨dbl_few _ h, Or.inr (by rw [cnt_count]; omega), g6_few 8 _ _ (by rw [cnt_count]; omega) (by omega) (by omega)⟩
theorem cond_few (s : ByteArray) (h : cnt 58 s.data.toList ≤ 1) : Cond6 s none := by
  cases hf : first 37 s.data.toList with
  | none => exact Or.inl ⟨by rw [ib_first]; show (match first 37 _ with | none => (-1 : Int) | some i => (i : Int)) = -1; rw [hf], good_few s h⟩
  | some n =>
    refine Or.inr ⟨n, by rw [← len_list]; exact first_lt hf, ib_at 37 _ n hf, rfl, good_few _ ?_⟩
    rw [ex_list0]
    have := cnt_sub (c := 58) (List.take_sublist n s.data.toList)
    omega
theorem numL_dig {M : Nat} : ∀ {l : List UInt8} {n v : Nat}, numL M l n = some v → ∀ x ∈ l, isDig x
  | [], n, v, _, x, hx => by simp at hx
  | c :: r, n, v, h, x, hx => by
    rw [numL] at h
    split at h
    · rename_i hd
      split at h
      · cases h
      · rcases List.mem_cons.1 hx with rfl | hx
        · exact hd
        · exact numL_dig h x hx
    · cases h
theorem fieldL_dig {p : List UInt8} {n : Nat} (h : fieldL p = some n) : ∀ x ∈ p, isDig x := by
  unfold fieldL at h
  split at h
  · cases h
  · rename_i m e
    exact numL_dig e
theorem sep_app (a r : List UInt8) (ha : ∀ x ∈ a, isDig x) : sep (a ++ 46 :: r) = some 46 := by
  unfold sep
  rw [List.find?_append]
  have : List.find? (fun c : UInt8 => c.toNat == 46 || c.toNat == 58 || c.toNat == 37) a = none := by
    rw [List.find?_eq_none]
    intro x hx
    have := ha x hx
    unfold isDig at this
    simp
    omega
  rw [this]
  rfl
theorem sep_addr {l : List UInt8} {ns : List Nat} (h : addrL l = some ns) : sep l = some 46 := by
  unfold addrL at h
  split at h
  · rename_i h4
    rw [splitOn_first] at h h4
    cases hf : first 46 l with
    | none => rw [hf] at h4; simp at h4
    | some i =>
      rw [hf] at h
      simp only at h
      rw [fieldsL] at h
      split at h
      · cases h
      · rename_i n e
        obtain ⟨h1, h2⟩ := cutL_spec (c := 46) (l := l) (a := l.take i) (b := l.drop (i + 1)) (by unfold cutL; show Option.map _ (first 46 l) = _; rw [hf]; rfl)
        rw [h1]
        exact sep_app _ _ (fieldL_dig e)
  · cases h
theorem pa_few (s : ByteArray) (p4 p6 : Addr) (hs : s.size ≤ 140737488351232) (h : cnt 58 s.data.toList ≤ 1) (w : World) (hE : Env w p4 p6) :
    Calls Tryz.prog 53 #[.string s] w (PostPA p4 p6 w ((addrL s.data.toList).map ad4)) := by
  rw [← four_ad]
  refine parseAddr s p4 p6 w hE hs _ _ rfl ?_ ?_ ?_
  · intro _ wx hx
    cases hf : four s.data.toList with
    | none => exact parse4_no s p4 p6 wx hs hf
    | some fs => exact parse4_yes s p4 p6 wx hx hs fs hf
  · intro hF wx hx
    have hn : addrL s.data.toList = none := by
      cases ha : addrL s.data.toList with
      | none => rfl
      | some ns => rw [sep_addr ha] at hF; cases hF
    have := parse6 s 0 0 p4 p6 wx hx hs none (cond_few s h) (by intro bs e; cases e)
    rw [four_ad, hn]
    exact this
  · intro h1 _
    rw [four_ad]
    cases ha : addrL s.data.toList with
    | none => rfl
    | some ns => exact absurd (sep_addr ha) h1
theorem pa_bA (a : List UInt8) (p4 p6 : Addr) (hs : a.length ≤ 1000000) (h : cnt 58 a ≤ 1) : ∀ wx, Env wx p4 p6 → Calls Tryz.prog 53 #[.string (bA a)] wx (PostPA p4 p6 wx ((addrL a).map ad4)) := fun wx hx => by
  have := pa_few (bA a) p4 p6 (by rw [bA_size]; omega) (by rw [bA_list]; exact h) wx hx
  rw [bA_list] at this
  exact this

/-! An entry. -/
def clsL (q : List UInt8) : Cls := if q = [] then .skip else if q = [42] then .star else match netL q with
  | some (ns, n) => .ip (.cidr 4 (mask4 ns n) (maskUpTo n 4 4))
  | none => match entL q with
    | none => .skip
    | some (h, p) => match addrL h with
      | some ns => .ip (.ip (b16 (ad4 ns)) (bA p))
      | none => .dom (.dom (bA (domL h).1) (bA p) (domL h).2)
theorem netL_some {q : List UInt8} {ns : List Nat} {n : Nat} (h : netL q = some (ns, n)) : ∃ a b, cutL 47 q = some (a, b) ∧ addrL a = some ns ∧ numL 32 b 0 = some n ∧ b ≠ [] := by
  unfold netL at h
  split at h
  · cases h
  · rename_i a b e
    split at h
    · rename_i e1 e2
      split at h
      · cases h
      · rename_i hb
        cases h
        exact ⟨a, b, e, e1, e2, hb⟩
    · cases h
theorem cut_sub {c : Nat} {l a b : List UInt8} (h : cutL c l = some (a, b)) : a.Sublist l ∧ b.Sublist l := by
  unfold cutL at h
  obtain ⟨i, hi, he⟩ := Option.map_eq_some_iff.1 h
  cases he
  exact ⟨List.take_sublist _ _, List.drop_sublist _ _⟩
theorem cidr_no (q : ByteArray) (p4 p6 : Addr) (hs : q.size ≤ 1000000) (h : cnt 58 q.data.toList ≤ 1) (hn : netL q.data.toList = none) (w : World) (hE : Env w p4 p6) : Calls Tryz.prog 48 #[.string q] w (Fails w) := by
  have hc := nCut_f q 47 (by omega) (2 * q.size + 2) (by omega)
  rw [show (47 : UInt8).toNat = 47 from rfl] at hc
  cases hcut : cutL 47 q.data.toList with
  | none =>
    rw [hcut] at hc
    exact ParseCIDR_nocut q _ _ w _ hc
  | some ab =>
    obtain ⟨a, b⟩ := ab
    rw [hcut] at hc
    obtain ⟨s1, s2⟩ := cut_sub hcut
    have hl := cutL_size hcut
    rw [len_list] at hl
    have hPA := pa_bA a p4 p6 (by omega) (by have := cnt_sub (c := 58) s1; omega)
    cases ha : addrL a with
    | none =>
      rw [ha] at hPA
      exact ParseCIDR_noaddr q _ _ p4 p6 w hE _ hc hPA
    | some ns =>
      rw [ha] at hPA
      have hd := dtoi_f (bA b) (by rw [bA_size]; omega) (2 * q.size + 2) (by rw [bA_size]; omega)
      rw [bA_list] at hd
      obtain ⟨r1, r2, r3, hr⟩ : ∃ r1 r2 r3, dt b 0 0 = (r1, r2, r3) := ⟨_, _, _, rfl⟩
      rw [hr] at hd
      refine ParseCIDR_nonum q (bA a) (bA b) (ad4 ns) r1 r2 r3 p4 p6 w hE _ hc hPA hd ?_
      have e1 : numL 32 b 0 = none ∨ b = [] := by
        unfold netL at hn
        rw [hcut] at hn
        simp only [ha] at hn
        split at hn
        · rename_i e1 e2
          split at hn
          · rename_i e3; exact Or.inr e3
          · cases hn
        · rename_i e
          left
          cases hb : numL 32 b 0 with
          | none => rfl
          | some n => exact absurd hb (by intro hb2; exact e ns n rfl hb2)
      rw [bA_size]
      rcases e1 with e1 | e1
      · have hnum := dt_num 32 (by omega) b 0 0 (by omega)
        rw [e1] at hnum
        simp only [hr, Nat.zero_add] at hnum
        cases r3 with
        | false => exact Or.inl rfl
        | true =>
          right
          by_cases h2 : r2 = (b.length : Int)
          · right
            rcases hnum with h | h | h
            · cases h
            · omega
            · exact ⟨rfl, h2, by omega, by show ((32 : Nat) : Int) < r1; omega⟩
          · exact Or.inl ⟨rfl, h2⟩
      · subst e1
        rw [dt, if_pos rfl] at hr
        cases hr
        exact Or.inl rfl
theorem cidr_yes (q : ByteArray) (p4 p6 : Addr) (hs : q.size ≤ 1000000) (h : cnt 58 q.data.toList ≤ 1) (ns : List Nat) (n : Nat) (hn : netL q.data.toList = some (ns, n)) (w : World) (hE : Env w p4 p6) :
    Calls Tryz.prog 48 #[.string q] w (CidrYes 4 (mask4 ns n) (maskUpTo n 4 4) w) := by
  obtain ⟨a, b, hcut, ha, hb, hne⟩ := netL_some hn
  obtain ⟨s1, s2⟩ := cut_sub hcut
  have hl := cutL_size hcut
  rw [len_list] at hl
  have hc := nCut_f q 47 (by omega) (2 * q.size + 20) (by omega)
  rw [show (47 : UInt8).toNat = 47 from rfl, hcut] at hc
  have hPA := pa_bA a p4 p6 (by omega) (by have := cnt_sub (c := 58) s1; omega)
  rw [ha] at hPA
  have hd := dtoi_f (bA b) (by rw [bA_size]; omega) (2 * q.size + 20) (by rw [bA_size]; omega)
  have hnum := dt_num 32 (by omega) b 0 0 (by omega)
  rw [hb] at hnum
  have hnum2 := hnum (fun _ => hne)
  rw [bA_list, hnum2, Nat.zero_add] at hd
  obtain ⟨h4, h5⟩ := addrL_some ha
  obtain ⟨i1, i2⟩ := ad4_in ns h4 h5
  exact ParseCIDR_yes q (bA a) (bA b) (ad4 ns) n p4 p6 w hE (2 * q.size + 20) hc i1 i2 hPA (by rw [bA_size]; exact hd) (numL_le (by omega) hb) (mask4 ns n) (mask_f ns n h4 h5 _) rfl
theorem phost_of (q : ByteArray) (hs : q.size ≤ 1000000) (h : cnt 58 q.data.toList ≤ 1) (h91 : cnt 91 q.data.toList = 0) (h93 : cnt 93 q.data.toList = 0) : Phost q ((entL q.data.toList).map fun hp => (bA hp.1, bA hp.2)) := by
  unfold entL
  cases hc : cutL 58 q.data.toList with
  | none =>
    simp only [Option.map_some]
    rw [bA_of]
    exact Phost.err (host_none q (by omega) (cutL_none hc))
  | some hp =>
    obtain ⟨a, b⟩ := hp
    obtain ⟨e1, e2⟩ := cutL_spec (c := 58) hc
    have hb : cnt 58 b = 0 := by
      rw [e1, cnt_app, cnt_cons, if_pos (show UInt8.toNat 58 = 58 from rfl)] at h
      omega
    have ho := host_one q (by omega) a b hc hb h91 h93
    by_cases ha : a = []
    · subst ha
      simp only [if_pos, Option.map_none]
      exact Phost.no (bA b) ho
    · simp only [if_neg ha, Option.map_some]
      have hpos : 0 < (bA a).size := by rw [bA_size]; exact len_pos ha
      refine Phost.ok (bA a) (bA b) ho hpos _ rfl (head_ne (bA a) hpos 91 ?_)
      rw [bA_list]
      have := cnt_sub (c := 91) (cut_sub hc).1
      omega
theorem getElem_bA (l : List UInt8) (i : Nat) (h : i < (bA l).size) : (bA l)[i] = l[i]'(by rw [bA_size] at h; exact h) := by
  show (bA l).data[i] = _
  simp [bA]
theorem dom_of (h : List UInt8) (hne : h ≠ []) : DomOf (bA h) (bA (domL h).1) (domL h).2 := by
  have hpos : 0 < (bA h).size := by rw [bA_size]; exact len_pos hne
  unfold domL
  by_cases hp : Lib.hasPrefix h [42, 46] = true
  · rw [if_pos hp]
    obtain ⟨r, hr⟩ := pre2 h hp
    have hsz : (bA h).size = r.length + 2 := by rw [bA_size, hr]; rfl
    have e : bA (h.drop 1) = (bA h).extract 1 (bA h).size := by
      apply bA_ext
      rw [ex_list, bA_list, bA_list]
    show DomOf (bA h) (bA (h.drop 1)) false
    rw [e]
    refine DomOf.star (by rw [bA_list]; exact hp) (by omega) ?_
    rw [getElem_bA]
    subst hr
    rfl
  · have hp' : Lib.hasPrefix h [42, 46] = false := by simpa using hp
    rw [if_neg hp]
    have hh : h.head? = some (h[0]'(len_pos hne)) := by rw [List.head?_eq_getElem?, List.getElem?_eq_getElem (len_pos hne)]
    by_cases h46 : h.head? = some 46
    · rw [if_pos h46]
      refine DomOf.dot (by rw [bA_list]; exact hp') hpos ?_
      rw [hh] at h46
      rw [getElem_bA, Option.some.inj h46]
      rfl
    · rw [if_neg h46]
      have e : bA (46 :: h) = ⟨#[46]⟩ ++ bA h := by
        apply bA_ext
        rw [bA_list]
        simp [bA_list]
      show DomOf (bA h) (bA (46 :: h)) true
      rw [e]
      refine DomOf.name (by rw [bA_list]; exact hp') hpos _ rfl ?_
      rw [getElem_bA]
      rw [hh] at h46
      simp only [bne_iff_ne, ne_eq]
      intro e2
      exact h46 (by rw [UInt8.toNat_inj.1 (show (h[0]'(len_pos hne)).toNat = (46 : UInt8).toNat from by show _ = 46; omega)])
theorem asc_bA {l : List UInt8} (h : ∀ x ∈ l, x.toNat < 128) : Asc (bA l) := by
  intro j b e
  rw [bA_list] at e
  exact h b (List.mem_of_getElem? e)
theorem domL_mem {h : List UInt8} {x : UInt8} (hx : x ∈ (domL h).1) : x ∈ h ∨ x = 46 := by
  unfold domL at hx
  split at hx
  · exact Or.inl (List.mem_of_mem_drop hx)
  · split at hx
    · exact Or.inl hx
    · rcases List.mem_cons.1 hx with e | e
      · exact Or.inr e
      · exact Or.inl e
theorem kind_of (h p : List UInt8) (p4 p6 : Addr) (hs : h.length ≤ 1000000) (h58 : cnt 58 h ≤ 1) (hasc : ∀ x ∈ h, x.toNat < 128) (hne : h ≠ []) :
    Kind p4 p6 (bA h) (bA p) (match addrL h with
      | some ns => .ip (.ip (b16 (ad4 ns)) (bA p))
      | none => .dom (.dom (bA (domL h).1) (bA p) (domL h).2)) := by
  have hPA := pa_bA h p4 p6 hs h58
  cases ha : addrL h with
  | some ns =>
    rw [ha] at hPA
    obtain ⟨h4, h5⟩ := addrL_some ha
    obtain ⟨i1, i2⟩ := ad4_in ns h4 h5
    exact Kind.ip _ fun w hE => ParseIP_yes (bA h) (ad4 ns) p4 p6 w hE i1 i2 hPA
  | none =>
    rw [ha] at hPA
    refine Kind.dom (fun w hE => ParseIP_no (bA h) p4 p6 w hE hPA) (by rw [bA_size]; exact len_pos hne) _ _ (dom_of h hne) (asc_bA fun x hx => ?_) (by rw [bA_size]; omega)
    rcases domL_mem hx with e | rfl
    · exact hasc x e
    · decide
theorem ent_of (q : ByteArray) (p4 p6 : Addr) (hs : q.size ≤ 1000000) (h : cnt 58 q.data.toList ≤ 1) (h91 : cnt 91 q.data.toList = 0) (h93 : cnt 93 q.data.toList = 0) (hasc : ∀ x ∈ q.data.toList, x.toNat < 128) : Ent p4 p6 q (clsL q.data.toList) := by
  unfold clsL
  by_cases h0 : q.data.toList = []
  · rw [if_pos h0]
    exact Ent.empty (by rw [← len_list, h0]; rfl)
  · rw [if_neg h0]
    have hpos : 0 < q.size := by rw [← len_list]; exact len_pos h0
    by_cases hst : q.data.toList = [42]
    · rw [if_pos hst]
      exact Ent.star (bA_ext (by rw [hst]))
    · rw [if_neg hst]
      have hst' : (q.toList == [42]) = false := by
        rw [ByteArray.toList_eq]
        simpa using hst
      cases hn : netL q.data.toList with
      | some nn =>
        obtain ⟨ns, n⟩ := nn
        exact Ent.cidr hpos hst' 4 (by omega) _ _ fun w hE => cidr_yes q p4 p6 hs h ns n hn w hE
      | none =>
        have hno := fun w hE => cidr_no q p4 p6 hs h hn w hE
        have hph := phost_of q hs h h91 h93
        cases he : entL q.data.toList with
        | none =>
          rw [he] at hph
          exact Ent.rest hpos hst' hno hph
        | some hp =>
          obtain ⟨a, b⟩ := hp
          rw [he] at hph
          have hsub : a.Sublist q.data.toList ∧ a ≠ [] := by
            unfold entL at he
            split at he
            · cases he; exact ⟨List.Sublist.refl _, h0⟩
            · rename_i h1 p1 e
              split at he
              · cases he
              · rename_i hne
                cases he
                exact ⟨(cut_sub e).1, hne⟩
          have hle := hsub.1.length_le
          rw [len_list] at hle
          have hk := kind_of a b p4 p6 (by omega) (by have := cnt_sub (c := 58) hsub.1; omega) (fun x hx => hasc x (hsub.1.subset hx)) hsub.2
          exact Ent.more hpos hst' hno (bA a) (bA b) hph _ hk
end Go.Proofs.YtpemdpfageikfaaGreatDoor.R
/- A list's rules together, by the program as by the reference; FnUseAny. -/
namespace Go.Proofs.YtpemdpfageikfaaGreatDoor.R
open Go.RowKit Go.Proofs.YtpemdpfageikfaaGreatDoorW.PrintWords Go.Proofs.YtpemdpfageikfaaGreatDoorW.PrintLast Go.Proofs.YtpemdpfageikfaaGreatDoorW.PrintMore

def valI (f : Mt → Bool) : Cls → Bool
  | .skip => false
  | .star => true
  | .ip m => f m
  | .dom _ => false
def valD (f : Mt → Bool) : Cls → Bool
  | .skip => false
  | .star => true
  | .ip _ => false
  | .dom m => f m
theorem gath_I (f : Mt → Bool) (hf : f .all = true) : ∀ (cls : List Cls) (is ds : List Mt), (gath is ds cls).1.any f = (is.any f || cls.any (valI f))
  | [], is, ds => by simp [gath]
  | .skip :: r, is, ds => by rw [gath, gath_I f hf r, List.any_cons]; rfl
  | .star :: r, is, ds => by simp [gath, hf, valI]
  | .ip m :: r, is, ds => by
    rw [gath, gath_I f hf r, List.any_cons, List.any_append]
    simp [valI, Bool.or_assoc]
  | .dom m :: r, is, ds => by rw [gath, gath_I f hf r, List.any_cons]; rfl
theorem gath_D (f : Mt → Bool) (hf : f .all = true) : ∀ (cls : List Cls) (is ds : List Mt), (gath is ds cls).2.any f = (ds.any f || cls.any (valD f))
  | [], is, ds => by simp [gath]
  | .skip :: r, is, ds => by rw [gath, gath_D f hf r, List.any_cons]; rfl
  | .star :: r, is, ds => by simp [gath, hf, valD]
  | .dom m :: r, is, ds => by
    rw [gath, gath_D f hf r, List.any_cons, List.any_append]
    simp [valD, Bool.or_assoc]
  | .ip m :: r, is, ds => by rw [gath, gath_D f hf r, List.any_cons]; rfl
theorem gath_P (P : Mt → Prop) (hP : P .all) : ∀ (cls : List Cls) (is ds : List Mt), (∀ m ∈ is, P m) → (∀ m, Cls.ip m ∈ cls → P m) → ∀ m ∈ (gath is ds cls).1, P m
  | [], is, ds, h, _ => h
  | .skip :: r, is, ds, h, h' => gath_P P hP r is ds h fun m hm => h' m (by simp [hm])
  | .star :: r, is, ds, h, h' => by
    intro m hm
    simp [gath] at hm
    subst hm
    exact hP
  | .ip m0 :: r, is, ds, h, h' => gath_P P hP r _ ds (by
      intro m hm
      rcases List.mem_append.1 hm with hm | hm
      · exact h m hm
      · simp at hm
        subst hm
        exact h' _ (by simp)) fun m hm => h' m (by simp [hm])
  | .dom m0 :: r, is, ds, h, h' => gath_P P hP r is _ h fun m hm => h' m (by simp [hm])
theorem gath_Q (P : Mt → Prop) (hP : P .all) : ∀ (cls : List Cls) (is ds : List Mt), (∀ m ∈ ds, P m) → (∀ m, Cls.dom m ∈ cls → P m) → ∀ m ∈ (gath is ds cls).2, P m
  | [], is, ds, h, _ => h
  | .skip :: r, is, ds, h, h' => gath_Q P hP r is ds h fun m hm => h' m (by simp [hm])
  | .star :: r, is, ds, h, h' => by
    intro m hm
    simp [gath] at hm
    subst hm
    exact hP
  | .dom m0 :: r, is, ds, h, h' => gath_Q P hP r is _ (by
      intro m hm
      rcases List.mem_append.1 hm with hm | hm
      · exact h m hm
      · simp at hm
        subst hm
        exact h' _ (by simp)) fun m hm => h' m (by simp [hm])
  | .ip m0 :: r, is, ds, h, h' => gath_Q P hP r _ ds h fun m hm => h' m (by simp [hm])
theorem gath_len : ∀ (cls : List Cls) (is ds : List Mt), (gath is ds cls).1.length ≤ is.length + cls.length + 1 ∧ (gath is ds cls).2.length ≤ ds.length + cls.length + 1
  | [], is, ds => by simp [gath]
  | .skip :: r, is, ds => by
    have := gath_len r is ds
    rw [gath, List.length_cons]
    omega
  | .star :: r, is, ds => by
    rw [gath]
    simp
  | .ip m :: r, is, ds => by
    have := gath_len r (is ++ [m]) ds
    rw [List.length_append, List.length_singleton] at this
    rw [gath, List.length_cons]
    omega
  | .dom m :: r, is, ds => by
    have := gath_len r is (ds ++ [m])
    rw [List.length_append, List.length_singleton] at this
    rw [gath, List.length_cons]
    omega
theorem All2.of_map {α β : Type} {P : α → β → Prop} (f : α → β) : ∀ {l : List α}, (∀ x ∈ l, P x (f x)) → All2 P l (l.map f)
  | [], _ => .nil
  | x :: r, h => .cons (h x (by simp)) (All2.of_map f fun y hy => h y (by simp [hy]))
theorem All2.maps {α β γ : Type} {P : α → β → Prop} (f : γ → α) (g : γ → β) : ∀ {l : List γ}, (∀ x ∈ l, P (f x) (g x)) → All2 P (l.map f) (l.map g)
  | [], _ => .nil
  | x :: r, h => .cons (h x (by simp)) (All2.maps f g fun y hy => h y (by simp [hy]))
/-! What the rules say. -/
def ruleI (ys : List Int) (port : ByteArray) : Mt → Bool
  | .all => true
  | .cidr L xs ms => sameMasked L xs ms ys
  | .ip l p => (Q.netcidr_IP_Equal.f 3 l ys == some true) && (p.toList.isEmpty || p.toList == port.toList)
  | .dom _ _ _ => false
def ruleX : Mt → Bool
  | .all => true
  | _ => false
def ruleN (host port : ByteArray) : Mt → Bool
  | .dom h p mh => (Lib.hasSuffix host.data.toList h.data.toList || (mh && (host.toList == (h.extract 1 h.size).toList))) && (p.toList.isEmpty || p.toList == port.toList)
  | .all => true
  | _ => false
theorem domL_pos (h : List UInt8) : h ≠ [] → (domL h).1 ≠ [] := by
  intro hne
  unfold domL
  by_cases hp : Lib.hasPrefix h [42, 46] = true
  · rw [if_pos hp]
    obtain ⟨r, hr⟩ := pre2 h hp
    subst hr
    simp
  · rw [if_neg hp]
    split
    · exact hne
    · simp
theorem entL_ne {q a b : List UInt8} (h0 : q ≠ []) (h : entL q = some (a, b)) : a ≠ [] := by
  unfold entL at h
  split at h
  · cases h; exact h0
  · split at h
    · cases h
    · rename_i hne; cases h; exact hne
theorem clsL_dom {q : List UInt8} {m : Mt} (h : clsL q = .dom m) : ∃ a b, a ≠ [] ∧ m = .dom (bA (domL a).1) (bA b) (domL a).2 := by
  unfold clsL at h
  split at h
  · cases h
  · rename_i h0
    split at h
    · cases h
    · split at h
      · cases h
      · split at h
        · cases h
        · rename_i a b he
          split at h
          · cases h
          · cases h
            exact ⟨a, b, entL_ne h0 he, rfl⟩
theorem clsL_ip {q : List UInt8} {m : Mt} (h : clsL q = .ip m) : (∃ ns n, (ns.length = 4 ∧ ∀ x ∈ ns, x ≤ 255) ∧ n ≤ 32 ∧ m = .cidr 4 (mask4 ns n) (maskUpTo n 4 4)) ∨ ∃ ns b, (ns.length = 4 ∧ ∀ x ∈ ns, x ≤ 255) ∧ m = .ip (b16 (ad4 ns)) (bA b) := by
  unfold clsL at h
  split at h
  · cases h
  · split at h
    · cases h
    · split at h
      · rename_i ns n hn
        cases h
        obtain ⟨a, b, _, ha, hb, _⟩ := netL_some hn
        exact Or.inl ⟨ns, n, addrL_some ha, numL_le (by omega) hb, rfl⟩
      · split at h
        · cases h
        · rename_i a b he
          split at h
          · rename_i ns ha
            cases h
            exact Or.inr ⟨ns, b, addrL_some ha, rfl⟩
          · cases h
def entHit (name port : List UInt8) (A : Option (List Nat)) (q : List UInt8) : Bool := if q = [] then false else if q = [42] then true else forL name port A q
theorem fit_bA (p port : List UInt8) : ((bA p).toList.isEmpty || (bA p).toList == (bA port).toList) = fitL p port := by
  rw [bA_toList, bA_toList]; rfl
theorem val_ip (name port ms q : List UInt8) (A : List Nat) (h4 : A.length = 4) (h5 : ∀ x ∈ A, x ≤ 255) :
    (valI (ruleI (ints A) (bA port)) (clsL q) || valD ruleX (clsL q)) = entHit name port (some A) q := by
  unfold clsL entHit
  by_cases h0 : q = []
  · rw [if_pos h0, if_pos h0]; rfl
  · rw [if_neg h0, if_neg h0]
    by_cases hst : q = [42]
    · rw [if_pos hst, if_pos hst]; rfl
    · rw [if_neg hst, if_neg hst]
      unfold forL
      cases hn : netL q with
      | some nn =>
        obtain ⟨ns, n⟩ := nn
        obtain ⟨a, b, _, ha, hb, _⟩ := netL_some hn
        obtain ⟨n4, n5⟩ := addrL_some ha
        simp only [valI, valD, ruleI, Bool.or_false]
        exact hit_net ns A n n4 n5 h4 h5 (numL_le (by omega) hb)
      | none =>
        cases he : entL q with
        | none => rfl
        | some hp =>
          obtain ⟨a, b⟩ := hp
          simp only
          cases ha : addrL a with
          | none => simp [valI, valD, ruleX]
          | some ns =>
            obtain ⟨n4, n5⟩ := addrL_some ha
            simp only [valI, valD, ruleI, Bool.or_false]
            rw [equal_f ns A n4 n5 h4 h5, fit_bA, val_eq ns A n4 n5 h4 h5]
            cases (ns == A) <;> rfl
theorem val_name (name port q : List UInt8) : valD (ruleN (bA name) (bA port)) (clsL q) = entHit name port none q := by
  unfold clsL entHit
  by_cases h0 : q = []
  · rw [if_pos h0, if_pos h0]; rfl
  · rw [if_neg h0, if_neg h0]
    by_cases hst : q = [42]
    · rw [if_pos hst, if_pos hst]; rfl
    · rw [if_neg hst, if_neg hst]
      unfold forL
      cases hn : netL q with
      | some nn => rfl
      | none =>
        cases he : entL q with
        | none => rfl
        | some hp =>
          obtain ⟨a, b⟩ := hp
          simp only
          cases ha : addrL a with
          | some ns => rfl
          | none =>
            simp only [valD, ruleN]
            rw [fit_bA, bA_list, bA_list, bA_toList, ByteArray.toList_eq, ex_list, bA_list]
            unfold domHit
            simp only [Option.isNone_none, Bool.true_and]
            exact Bool.and_comm _ _
/-! Small letters. -/
def low (l : List UInt8) : List UInt8 := Lib.toLowerA (Lib.trimSpace l)
theorem low_byte (c : UInt8) (h1 : c.toNat < 65 ∨ 90 < c.toNat) (h2 : c.toNat < 97 ∨ 122 < c.toNat) (b : UInt8) : ((Lib.lowerB b).toNat == c.toNat) = (b.toNat == c.toNat) := by
  unfold Lib.lowerB Lib.isUpperB
  by_cases h : (decide (65 ≤ b) && decide (b ≤ 90)) = true
  · rw [if_pos h]
    have h3 : 65 ≤ b.toNat ∧ b.toNat ≤ 90 := by
      simp only [Bool.and_eq_true, decide_eq_true_eq, UInt8.le_iff_toNat_le] at h
      exact h
    have h4 : (b + 32).toNat = b.toNat + 32 := by rw [UInt8.toNat_add]; show (_ + 32) % 256 = _; omega
    rw [h4, Bool.eq_iff_iff, beq_iff_eq, beq_iff_eq]
    omega
  · rw [if_neg h]
theorem low_asc (b : UInt8) (h : b.toNat < 128) : (Lib.lowerB b).toNat < 128 := by
  unfold Lib.lowerB Lib.isUpperB
  by_cases h1 : (decide (65 ≤ b) && decide (b ≤ 90)) = true
  · rw [if_pos h1]
    have h3 : 65 ≤ b.toNat ∧ b.toNat ≤ 90 := by
      simp only [Bool.and_eq_true, decide_eq_true_eq, UInt8.le_iff_toNat_le] at h1
      exact h1
    rw [UInt8.toNat_add]
    show (_ + 32) % 256 < _
    omega
  · rw [if_neg h1]; exact h
theorem low_cnt (c : UInt8) (h1 : c.toNat < 65 ∨ 90 < c.toNat) (h2 : c.toNat < 97 ∨ 122 < c.toNat) (l : List UInt8) : cnt c.toNat (low l) ≤ cnt c.toNat l := by
  have : cnt c.toNat (low l) = cnt c.toNat (Lib.trimSpace l) := by
    unfold cnt low Lib.toLowerA
    rw [List.countP_map]
    refine List.countP_congr fun x _ => ?_
    rw [Function.comp, low_byte c h1 h2]
  rw [this]
  exact cnt_sub (trim_sub l)
theorem low_len (l : List UInt8) : (low l).length ≤ l.length := by
  unfold low Lib.toLowerA
  rw [List.length_map]
  exact (trim_sub l).length_le
theorem low_ascs {l : List UInt8} (h : ∀ x ∈ l, x.toNat < 128) : ∀ x ∈ low l, x.toNat < 128 := by
  intro x hx
  unfold low Lib.toLowerA at hx
  obtain ⟨y, hy, rfl⟩ := List.mem_map.1 hx
  exact low_asc y (h y ((trim_sub l).subset hy))
theorem norm_low (p : ByteArray) : norm p = bA (low p.data.toList) := rfl
theorem lowS_low (l : List UInt8) : lowS (bA (Lib.trimSpace l)) = bA (low l) := by
  unfold lowS low
  rw [bA_list]; rfl
end Go.Proofs.YtpemdpfageikfaaGreatDoor.R
/- FnUseAny: the reference and the program say the same; its body holds. -/
namespace Go.Proofs.YtpemdpfageikfaaGreatDoor.R
open Go.RowKit Go.Proofs.YtpemdpfageikfaaGreatDoorW.PrintWords Go.Proofs.YtpemdpfageikfaaGreatDoorW.PrintLast Go.Proofs.YtpemdpfageikfaaGreatDoorW.PrintMore

def lbL : Option (List Nat) → Bool
  | some ms => valL 0 ms / 16777216 == 127
  | none => false
def locL : List UInt8 := [108, 111, 99, 97, 108, 104, 111, 115, 116]
/-- What the reference says of a list and a host with a port. -/
def usesL (no addr : List UInt8) : Bool := if addr = [] then true else match cutL 58 addr with
  | none => false
  | some (h, p) => if 0 < cnt 58 p then false else if h = locL then false else if lbL (addrL h) = true then false else !((splitOn 44 no).any fun e => entHit (low h) p (addrL h) (low e))
theorem usesL_none {no addr : List UInt8} (h0 : addr ≠ []) (hc : cutL 58 addr = none) : usesL no addr = false := by
  unfold usesL
  rw [if_neg h0, hc]
theorem usesL_some {no addr h p : List UInt8} (h0 : addr ≠ []) (hc : cutL 58 addr = some (h, p)) : usesL no addr = if 0 < cnt 58 p then false else if h = locL then false else if lbL (addrL h) = true then false else !((splitOn 44 no).any fun e => entHit (low h) p (addrL h) (low e)) := by
  unfold usesL
  rw [if_neg h0, hc]
theorem addr_adI (h : List UInt8) (hs : h.length ≤ 300) (k : Nat) (hk : 3000 < k) : Q.spec_Address.f k (bA h) = some (adI (addrL h), (addrL h).isSome) := by
  rw [address_f (bA h) (by rw [bA_size]; omega) k (by rw [bA_size]; omega), bA_list]
  cases addrL h <;> rfl
theorem loc_eq (h : List UInt8) : ((bA h).toList == [108, 111, 99, 97, 108, 104, 111, 115, 116]) = decide (h = locL) := by
  rw [bA_toList]
  rw [Bool.eq_iff_iff, beq_iff_eq, decide_eq_true_eq]
  rfl
theorem any_hits {α : Type} (l : List α) (f : α → Bool) : (l.map f).any id = l.any f := by
  rw [List.any_map]; rfl
theorem adI_range (h : List UInt8) : 0 ≤ adI (addrL h) ∧ adI (addrL h) < 4294967296 := by
  cases ha : addrL h with
  | none => simp [adI]
  | some ns =>
    obtain ⟨h4, h5⟩ := addrL_some ha
    have := valL_small h4 h5
    simp only [adI]
    omega
theorem lb_adI (h : List UInt8) : ((addrL h).isSome && adI (addrL h) / 16777216 == 127) = lbL (addrL h) := by
  cases addrL h with
  | none => rfl
  | some ns =>
    simp only [adI, lbL, Option.isSome_some, Bool.true_and]
    rw [Bool.eq_iff_iff, beq_iff_eq, beq_iff_eq]
    omega
theorem uses13 (no addr : ByteArray) (hno : no.size ≤ 300) (had : addr.size ≤ 300) (k : Nat) (hk : 3000 < k) (w : World) :
    Calls Tryz.prog 13 #[.string no, .string addr] w fun e w' => e = .returned (.bool (usesL no.data.toList addr.data.toList)) ∧ Below w.heap.size w w' := by
  by_cases h0 : addr.data.toList = []
  · obtain rfl : addr = ⟨#[]⟩ := bA_ext (by rw [h0])
    exact uses_empty no w
  · have hc := cut_f addr 58 (by omega) k (by omega)
    have hem : addr.toList.isEmpty = false := by rw [ByteArray.toList_eq]; simpa using h0
    cases hcut : cutL 58 addr.data.toList with
    | none =>
      rw [usesL_none h0 hcut]
      rw [hcut] at hc
      exact uses_no no addr _ _ false _ k w hem hc (count_f ⟨#[]⟩ 58 (by show 0 ≤ _; omega) k (by show 0 < _; omega)) (Or.inl rfl)
    | some hp =>
      obtain ⟨h, p⟩ := hp
      rw [usesL_some h0 hcut]
      rw [hcut] at hc
      have hl := cutL_size hcut
      rw [len_list] at hl
      have hn := count_f (bA p) 58 (by rw [bA_size]; omega) k (by rw [bA_size]; omega)
      rw [bA_list] at hn
      by_cases hp : 0 < cnt 58 p
      · rw [if_pos hp]
        exact uses_no no addr _ _ true _ k w hem hc hn (Or.inr (Or.inl ⟨rfl, by omega⟩))
      · rw [if_neg hp]
        by_cases hloc : h = locL
        · rw [if_pos hloc]
          exact uses_no no addr _ _ true _ k w hem hc hn (Or.inr (Or.inr ⟨rfl, by omega, by rw [loc_eq, decide_eq_true_eq]; exact hloc⟩))
        · rw [if_neg hloc]
          have hl2 : ((bA h).toList == [108, 111, 99, 97, 108, 104, 111, 115, 116]) = false := by rw [loc_eq, decide_eq_false_iff_not]; exact hloc
          have ht := trim_f (bA h) (by rw [bA_size]; omega) k (by rw [bA_size]; omega)
          rw [bA_list] at ht
          have hA := addr_adI h (by omega) k hk
          obtain ⟨a0, a1⟩ := adI_range h
          have hts : (bA (Lib.trimSpace h)).size ≤ 140737488351232 := by
            rw [bA_size]
            have := (trim_sub h).length_le
            omega
          have hlb := lb_adI h
          by_cases hb : lbL (addrL h) = true
          · rw [if_pos hb]
            rw [hb, Bool.and_eq_true] at hlb
            rw [hlb.1] at hA
            exact uses_lb no addr _ _ _ _ _ k w hem hc hn (by omega) hl2 ht hts hA a0 a1 hlb.2
          · rw [if_neg hb]
            have hb' : lbL (addrL h) = false := by simpa using hb
            rw [hb'] at hlb
            have hsp := split_f no 44 (by omega) k (by omega)
            have hsl := splitOn_len 44 no.data.toList
            rw [len_list] at hsl
            have := uses_go no addr _ _ _ _ _ _ k w hem hc hn (by omega) hl2 ht hts hA a0 a1 hlb _ hsp (by
              rw [List.length_map]
              obtain ⟨x, y, e⟩ := splitOn_ne 44 no.data.toList
              rw [e]; simp) (by rw [List.length_map]; omega) ((splitOn 44 no.data.toList).map fun e => entHit (low h) p (addrL h) (low e)) (All2.maps bA _ fun e he => by
                have hle := (splitOn_mem he).length_le
                rw [len_list] at hle
                have hte := trim_f (bA e) (by rw [bA_size]; omega) k (by rw [bA_size]; omega)
                rw [bA_list] at hte
                refine ⟨_, hte, by
                  rw [bA_size]
                  have := (trim_sub e).length_le
                  omega, ?_⟩
                rw [lowS_low, lowS_low]
                have hll := low_len e
                have hlh := low_len h
                unfold entHit
                by_cases e0 : low e = []
                · rw [if_pos e0, e0]
                  exact EntS.empty rfl
                · rw [if_neg e0]
                  by_cases e1 : low e = [42]
                  · rw [if_pos e1, e1]
                    exact EntS.star rfl
                  · rw [if_neg e1]
                    refine EntS.one (by rw [bA_toList]; simpa using e1) (by rw [bA_toList]; simpa using e0) _ ?_
                    have := isFor_f (bA (low h)) (bA p) (bA (low e)) (addrL h) (fun ms hm => addrL_some hm) (by rw [bA_size]; omega) (by rw [bA_size]; omega) (by rw [bA_size]; exact len_pos e0) k (by rw [bA_size]; omega)
                    rw [bA_list, bA_list, bA_list] at this
                    exact this)
            rw [any_hits] at this
            exact this
/-! The program. -/
def clsOf (no : List UInt8) : List Cls := (splitOn 44 no).map fun e => clsL (low e)
theorem clsOf_len (no : ByteArray) (hno : no.size ≤ 300) : (clsOf no.data.toList).length ≤ 301 := by
  unfold clsOf
  rw [List.length_map]
  have := splitOn_len 44 no.data.toList
  rw [len_list] at this
  omega
theorem hits_any (ms : List Mt) (f : Mt → Bool) : (ms.map f).any id = ms.any f := any_hits ms f
theorem cls_any (no : List UInt8) (f : Cls → Bool) (g : List UInt8 → Bool) (h : ∀ q, f (clsL q) = g q) : (clsOf no).any f = (splitOn 44 no).any fun e => g (low e) := by
  unfold clsOf
  rw [List.any_map]
  congr 1
  funext e
  exact h (low e)
theorem cls_or (l : List Cls) (f g : Cls → Bool) : (l.any f || l.any g) = l.any fun c => f c || g c := by
  induction l with
  | nil => rfl
  | cons a r ih =>
    rw [List.any_cons, List.any_cons, List.any_cons, ← ih]
    cases f a <;> cases g a <;> cases r.any f <;> rfl
theorem use35 (no addr : ByteArray) (hno : no.size ≤ 300) (had : addr.size ≤ 300) (hasc : ∀ x ∈ addr.data.toList, x.toNat < 128) (h91 : cnt 91 addr.data.toList = 0) (h93 : cnt 93 addr.data.toList = 0)
    (p4 p6 : Addr) (w : World) (cb base : Nat) (vI vD : Value) (hE : Env w p4 p6) (hst : St w base cb no vI vD (gath [] [] (clsOf no.data.toList)).1 (gath [] [] (clsOf no.data.toList)).2) :
    Calls Tryz.prog 35 #[.pointer (some ⟨cb, 0, none⟩), .string addr] w fun e w' => e = .returned (.bool (usesL no.data.toList addr.data.toList)) ∧ Below w.heap.size w w' := by
  by_cases h0 : addr.data.toList = []
  · obtain rfl : addr = ⟨#[]⟩ := bA_ext (by rw [h0])
    exact use_empty cb w
  · have hpos : 0 < addr.size := by rw [← len_list]; exact len_pos h0
    cases hcut : cutL 58 addr.data.toList with
    | none =>
      rw [usesL_none h0 hcut]
      exact use_nohost cb addr w hpos (host_none addr (by omega) (cutL_none hcut))
    | some hp =>
      obtain ⟨h, p⟩ := hp
      rw [usesL_some h0 hcut]
      have hl := cutL_size hcut
      rw [len_list] at hl
      obtain ⟨e1, e2⟩ := cutL_spec (c := 58) hcut
      have e2' : cnt 58 h = 0 := e2
      have ecnt : cnt 58 addr.data.toList = cnt 58 p + 1 := by
        rw [e1, cnt_app, cnt_cons, if_pos (show UInt8.toNat 58 = 58 from rfl)]
        omega
      by_cases hp : 0 < cnt 58 p
      · rw [if_pos hp]
        exact use_nohost cb addr w hpos (host_many addr (by omega) (by omega) h91)
      · rw [if_neg hp]
        have hH := host_one addr (by omega) h p hcut (by omega) h91 h93
        by_cases hloc : h = locL
        · rw [if_pos hloc]
          subst hloc
          exact use_local cb addr _ w hpos hH
        · rw [if_neg hloc]
          have hl2 : ((bA h).toList == [108, 111, 99, 97, 108, 104, 111, 115, 116]) = false := by rw [loc_eq, decide_eq_false_iff_not]; exact hloc
          have hPA := pa_bA h p4 p6 (by omega) (by omega)
          have hah : Asc (bA h) := asc_bA fun x hx => hasc x ((cut_sub hcut).1.subset hx)
          have hgl := gath_len (clsOf no.data.toList) [] []
          have hcl := clsOf_len no hno
          rw [List.length_nil] at hgl
          cases ha : addrL h with
          | none =>
            rw [ha] at hPA
            have hnl := low_len h
            have := use_name cb base addr no (bA h) (bA p) vI vD _ _ p4 p6 w hE hst hpos hH hl2 hPA (by rw [bA_size]; omega) hah (by rw [norm_low, bA_size, bA_list]; omega) _ (All2.of_map (ruleN (norm (bA h)) (bA p)) (gath_Q (fun m => HitN (norm (bA h)) (bA p) m (ruleN (norm (bA h)) (bA p) m)) .all _ [] [] (by simp) (fun m hm => by
              unfold clsOf at hm
              obtain ⟨e, _, he⟩ := List.mem_map.1 hm
              obtain ⟨a, b, hne, rfl⟩ := clsL_dom he
              refine HitN.dom _ _ _ ?_
              rw [bA_size]
              exact len_pos (domL_pos a hne)))) (by omega)
            rw [hits_any, gath_D _ rfl, List.any_nil, Bool.false_or, norm_low, bA_list, cls_any _ _ _ (val_name (low h) p)] at this
            rw [if_neg (by simp [lbL])]
            exact this
          | some ns =>
            rw [ha] at hPA
            obtain ⟨n4, n5⟩ := addrL_some ha
            obtain ⟨i1, i2⟩ := ad4_in ns n4 n5
            have hlb := ad4_lb ns n4 n5
            have hlb2 : lbOf (ad4 ns) = lbL (some ns) := by
              rw [hlb, lbL, Bool.eq_iff_iff, beq_iff_eq, beq_iff_eq]
              omega
            by_cases hb : lbL (some ns) = true
            · rw [if_pos hb]
              exact use_loop cb addr (bA h) (bA p) (ad4 ns) p4 p6 w hE hpos hH hl2 i1 i2 hPA (by intro e; cases e) (by rw [hlb2]; exact hb)
            · rw [if_neg hb]
              have hys := ad4_ys ns n4 n5
              have := use_ip cb base addr no (bA h) (bA p) vI vD _ _ (ad4 ns) p4 p6 w hE hst hpos hH hl2 i1 i2 hPA (by intro e; cases e) (by rw [hlb2]; simpa using hb) (by rw [bA_size]; omega) hah _ _ (All2.of_map (ruleI (ysOf (ad4 ns)) (bA p)) (gath_P (fun m => Hit (ysOf (ad4 ns)) (bA p) m (ruleI (ysOf (ad4 ns)) (bA p) m)) .all _ [] [] (by simp) (fun m hm => by
                unfold clsOf at hm
                obtain ⟨e, _, he⟩ := List.mem_map.1 hm
                have hyl : (ysOf (ad4 ns)).length = 4 := ysOf_len (ad4 ns)
                rcases clsL_ip he with ⟨xs, n, ⟨x4, x5⟩, hn, rfl⟩ | ⟨xs, b, ⟨x4, x5⟩, rfl⟩
                · exact Hit.c44 _ _ hyl
                · refine Hit.ip _ _ _ ?_ ?_
                  · rw [ad4_b16 xs x4 x5]
                    simp [ints, x4]
                  · rw [hys, equal_f xs ns x4 x5 n4 n5]
                    cases (xs == ns) <;> rfl))) (All2.of_map ruleX (gath_Q (fun m => HitX m (ruleX m)) .all _ [] [] (by simp) (fun m hm => by
                unfold clsOf at hm
                obtain ⟨e, _, he⟩ := List.mem_map.1 hm
                obtain ⟨a, b, hne, rfl⟩ := clsL_dom he
                exact HitX.dom _ _ _))) (by omega) (by omega)
              rw [hits_any, hits_any, gath_I _ rfl, gath_D _ rfl, List.any_nil, List.any_nil, Bool.false_or, Bool.false_or, ← Bool.not_or, cls_or, hys, cls_any _ _ _ (fun q => val_ip (low h) p [] q ns n4 n5)] at this
              exact this
theorem EnvB.up {w : World} {B : Nat} {p4 p6 : Addr} (h : EnvB w B p4 p6) : EnvB w w.heap.size p4 p6 :=
  ⟨h.env, Nat.le_refl _, h.env.size, Nat.lt_of_lt_of_le h.l4 h.le, Nat.lt_of_lt_of_le h.l6 h.le⟩
/-- What a list must be. -/
structure Said (no : ByteArray) : Prop where
  size : no.size ≤ 300
  asc : ∀ x ∈ no.data.toList, x.toNat < 128
  b91 : cnt 91 no.data.toList = 0
  b93 : cnt 93 no.data.toList = 0
  few : ∀ e ∈ splitOn 44 no.data.toList, cnt 58 e ≤ 1
theorem ent_list (no : ByteArray) (hS : Said no) (p4 p6 : Addr) : ∀ e ∈ splitOn 44 no.data.toList, (bA e).size ≤ 140737488351232 ∧ Asc (bA e) ∧ Ent p4 p6 (norm (bA e)) (clsL (low e)) := by
  intro e he
  have hsub := splitOn_mem he
  have hle := hsub.length_le
  rw [len_list] at hle
  have hsz := hS.size
  refine ⟨by rw [bA_size]; omega, asc_bA fun x hx => hS.asc x (hsub.subset hx), ?_⟩
  have hll := low_len e
  have := ent_of (bA (low e)) p4 p6 (by rw [bA_size]; omega)
    (by rw [bA_list]; exact Nat.le_trans (low_cnt 58 (by decide) (by decide) e) (hS.few e he))
    (by rw [bA_list]; have h1 := low_cnt 91 (by decide) (by decide) e; have h2 := cnt_sub (c := 91) hsub; have h3 := hS.b91; have h1' : cnt 91 (low e) ≤ cnt 91 e := h1; omega)
    (by rw [bA_list]; have h1 := low_cnt 93 (by decide) (by decide) e; have h2 := cnt_sub (c := 93) hsub; have h3 := hS.b93; have h1' : cnt 93 (low e) ≤ cnt 93 e := h1; omega)
    (by rw [bA_list]; exact low_ascs fun x hx => hS.asc x (hsub.subset hx))
  rw [bA_list] at this
  rw [norm_low, bA_list]
  exact this
theorem init_said (no : ByteArray) (hS : Said no) (p4 p6 : Addr) (B cb : Nat) (w : World) (hE : EnvB w B p4 p6) (hB : B ≤ cb) (hcb : CbAt w cb no (.slice none 0 0) (.slice none 0 0)) :
    Calls Tryz.prog 34 #[.pointer (some ⟨cb, 0, none⟩)] w (InitPost B cb no (gath [] [] (clsOf no.data.toList)).1 (gath [] [] (clsOf no.data.toList)).2 w) := by
  have hsz := hS.size
  have hsp := hSplit_f no 44 (by omega) (2 * no.size + 3) (by omega)
  rw [show (44 : UInt8).toNat = 44 from rfl] at hsp
  have hsl := splitOn_len 44 no.data.toList
  rw [len_list] at hsl
  exact init_calls cb B no p4 p6 w hE hB hcb _ _ hsp (by
    rw [List.length_map]
    obtain ⟨x, y, e⟩ := splitOn_ne 44 no.data.toList
    rw [e]; simp) (by rw [List.length_map]; omega) (clsOf no.data.toList) (All2.maps bA (fun e => clsL (low e)) (ent_list no hS p4 p6))
theorem use_12 (no addr : ByteArray) (hS : Said no) (had : addr.size ≤ 300) (hasc : ∀ x ∈ addr.data.toList, x.toNat < 128) (h91 : cnt 91 addr.data.toList = 0) (h93 : cnt 93 addr.data.toList = 0)
    (p4 p6 : Addr) (w : World) (hE : EnvB w w.heap.size p4 p6) : Calls Tryz.prog 12 #[.string no, .string addr] w (Says (usesL no.data.toList addr.data.toList) w) :=
  use12 no addr _ w (zzUse no addr _ _ _ p4 p6 w hE (fun wx cb hx hB hcb => init_said no hS p4 p6 _ cb wx hx hB hcb) fun wx cb vI vD base hx hst => use35 no addr hS.size had hasc h91 h93 p4 p6 wx cb base vI vD hx hst)
theorem lst_said : Said lst := ⟨by decide, by decide, by decide, by decide, by decide⟩
theorem works (p4 p6 : Addr) (w : World) (hE : EnvB w w.heap.size p4 p6) : Calls Tryz.prog 11 #[] w (Says true w) := by
  have hx := fun wx (hb : Below w.heap.size w wx) => (hE.keep hb).up
  refine works11 w (fun wx hb => ?_) (fun wx hb => ?_) (fun wx hb => ?_)
  · have := use_12 lst ⟨#[99, 46, 98, 58, 56, 48]⟩ lst_said (by decide) (by decide) (by decide) (by decide) p4 p6 wx (hx wx hb)
    rwa [show usesL lst.data.toList (⟨#[99, 46, 98, 58, 56, 48]⟩ : ByteArray).data.toList = true from by decide +kernel] at this
  · have := use_12 lst ⟨#[120, 46, 97, 46, 98, 58, 56, 48]⟩ lst_said (by decide) (by decide) (by decide) (by decide) p4 p6 wx (hx wx hb)
    rwa [show usesL lst.data.toList (⟨#[120, 46, 97, 46, 98, 58, 56, 48]⟩ : ByteArray).data.toList = false from by decide +kernel] at this
  · have := use_12 lst ⟨#[49, 46, 50, 46, 51, 46, 57, 58, 56, 48]⟩ lst_said (by decide) (by decide) (by decide) (by decide) p4 p6 wx (hx wx hb)
    rwa [show usesL lst.data.toList (⟨#[49, 46, 50, 46, 51, 46, 57, 58, 56, 48]⟩ : ByteArray).data.toList = false from by decide +kernel] at this
theorem said_of (no : ByteArray) (h : no.size ≤ 300) (hs : saidL no.data.toList = true) : Said no := by
  unfold saidL at hs
  rw [Bool.and_eq_true, Bool.and_eq_true, List.all_eq_true, List.all_eq_true, beq_iff_eq] at hs
  obtain ⟨⟨h1, h2⟩, h3⟩ := hs
  exact ⟨h, fun x hx => by simpa using h2 x hx, by omega, by omega, fun e he => by simpa using h1 e he⟩
/-- FnUseAny says true. -/
theorem any_true (no addr : ByteArray) (p4 p6 : Addr) (w : World) (hE : EnvB w w.heap.size p4 p6) : Calls Tryz.prog 3 #[.string no, .string addr] w (Says true w) := by
  by_cases h1 : no.size ≤ 2147483647
  · by_cases h2 : addr.size ≤ 2147483647
    · have hx := fun wx (hb : Below w.heap.size w wx) => (hE.keep hb).up
      obtain ⟨k, hk⟩ : ∃ k, k = 2 * no.size + 2 * addr.size + 4000 := ⟨_, rfl⟩
      have hS := said_f no (by omega) k (by omega)
      have hA := ascii_f addr (by omega) k (by omega)
      have hC1 := count_f addr 91 (by omega) k (by omega)
      have hC2 := count_f addr 93 (by omega) k (by omega)
      have c1 : cnt 91 addr.data.toList ≤ addr.size := by rw [← len_list]; exact List.countP_le_length
      have c2 : cnt 93 addr.data.toList ≤ addr.size := by rw [← len_list]; exact List.countP_le_length
      refine any_body no addr _ _ _ _ k w h1 h2 hS hA hC1 hC2 (by omega) (by omega) (fun wx hb => works p4 p6 wx (hx wx hb)) ?_
      intro s1 s2 s3 s4 s5
      refine ⟨usesL no.data.toList addr.data.toList, fun wx hb => use_12 no addr (said_of no s2 s1) s4 (fun x hx => ?_) (by omega) (by omega) p4 p6 wx (hx wx hb), fun wx hb => uses13 no addr s2 s4 k (by omega) wx⟩
      rw [List.all_eq_true] at s3
      simpa using s3 x hx
    · exact any_big no addr w (Or.inr (by omega))
  · exact any_big no addr w (Or.inl (by omega))
end Go.Proofs.YtpemdpfageikfaaGreatDoor.R
