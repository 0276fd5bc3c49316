/- FnUseAny: by any list of ASCII without brackets, in whose entries there is one colon at most, a request to any text of ASCII without brackets goes through the proxy just where the reference says so: the row and its tied card. Conditions: none beyond the row's own. -/
import Derived.Test.YtpemdpfageikfaaGreatDoorZN
import Derived.Test.YtpemdpfageikfaaGreatDoorZO
import Derived.Test.YtpemdpfageikfaaGreatDoorCards
set_option linter.unusedVariables false
set_option linter.unusedSimpArgs false
/- FnUseAny: by any list of ASCII without brackets, in whose entries there is one colon at most, a request to any text of ASCII without brackets goes through the proxy just where the reference says so: the row and its tied card. Conditions: none beyond the row's own. -/
namespace Go.Proofs.YtpemdpfageikfaaGreatDoor.R
open Go.ChangeShapes Go.WideShapes Go.ChangeAt Go.RowKit
open Go.ChangeMaps (open_string shut_string)

theorem envB_of {W : World} {p4 p6 : Addr} (h : Env W p4 p6) : EnvB W W.heap.size p4 p6 := by
  refine ⟨h, Nat.le_refl _, h.size, ?_, ?_⟩
  · obtain ⟨c, t, e⟩ := h.b4; exact blk_lt' e
  · obtain ⟨c, t, e⟩ := h.b6; exact blk_lt' e
set_option maxRecDepth 100000
theorem any_lifted (os : Os) (started : os.Started) (H : Type) (enc : TypeId × Value → H) :
    ReturnsInHanded {} Tryz.checked os 3 .any (fun w args => (Rows.fnUseAnySpec.pre enc Tryz.prog Tryz.f3 [] false w args ∧ laidMetH Tryz.prog Rows.fnUseAnyRow.laid w) ∧ sizedMet enc Tryz.prog Tryz.f3 (OpenSpec.ofChange Rows.fnUseAnySpec) false w args)
      (Rows.fnUseAnySpec.post enc Tryz.prog Tryz.f3 false true false false) := by
  refine returnsInHanded_of_change_and (C := Tryz.checked) (X := fun w _ => laidMetH Tryz.prog Rows.fnUseAnyRow.laid w) (fun _ _ _ hh h => h.of_heap hh) own started (by kernel_rfl) Tryz.func3
    (ChangeSpec.witness_shaped (enc := enc) (C := Tryz.checked) (os := os) (X := fun w _ => laidMetH Tryz.prog Rows.fnUseAnyRow.laid w) false (World.laidAll Tryz.prog os Rows.fnUseAnyRow.laid) #[.string ⟨#[]⟩, .string ⟨#[]⟩] 8 (World.laidAll_os _ _ _)
      (World.shaped_of_ZipB (by kernel_rfl) (by kernel_rfl)) (by kernel_rfl) (by kernel_rfl) (by kernel_rfl)
      (by rw [MakeChecks.laidMetH_plain _ _ _ (by kernel_rfl)]; exact laidMet_laidAll _ (by kernel_rfl) (by kernel_rfl))) ?_
  intro W base args ds gs before hval0 hW _ _ hX _
  have hval : ∀ (j : Nat) t v, Tryz.f3.params[j]? = some t → args[j]? = some v → Value.okWide Tryz.prog W .any base t v := hval0
  have hW' := hW
  obtain ⟨p, q, hA0, hV, rfl, _, _⟩ := hW
  have hA : DataW.TrodAll enc Tryz.prog W 0 (fun _ => true) true Tryz.f3.params.toList args.toList ds p := hA0
  rw [Tryz.params3] at hA hval
  obtain ⟨v0, v1, d0, d1, p0, p1, rfl, rfl, rfl, h0, h1⟩ := trodAll_two hA
  obtain ⟨no, rfl, rfl, rfl, hs0⟩ := open_string Tryz.underlying9 (hval 0 9 v0 rfl rfl) h0
  obtain ⟨addr, rfl, rfl, rfl, hs1⟩ := open_string Tryz.underlying9 (hval 1 9 v1 rfl rfl) h1
  obtain ⟨p4, p6, hE⟩ := env_of _ W hX (by kernel_rfl) (by kernel_rfl) (by kernel_rfl) (by kernel_rfl) (by kernel_rfl)
  refine (any_true no addr p4 p6 W (envB_of hE)).mono fun e W' ⟨he, hb⟩ => ?_
  subst he
  obtain ⟨g1, rfl⟩ : ∃ g1, gs = [g1] := by
    match gs, hV with
    | [], h => exact h.elim
    | [g1], _ => exact ⟨g1, rfl⟩
    | _ :: _ :: _, h =>
      obtain ⟨_, _, _, _, _, _, _, _, _, _, h2, _⟩ := h
      exact h2.elim
  exact ⟨_, rfl, _, _, _, [], [], q, hW', trodAll_mk1 (shut_bool Tryz.underlying4 _), trodAll_mk2 (shut_string Tryz.underlying9 hs0) (shut_string Tryz.underlying9 hs1), hb.trodVars laidOut (by kernel_rfl) hV, hb.frame _, fun h => by cases h⟩
theorem any_holds : Rows.FnUseAnySaid :=
  OpenClaim.holds_of_wide 3 Tryz.f3 rfl rfl rfl rfl rfl rfl rfl ⟨rfl, rfl, rfl, rfl, rfl⟩ rfl rfl rfl rfl rfl (by kernel_rfl) Tryz.func3 (by kernel_rfl)
    (of_decide_eq_true (by kernel_rfl)) (by unfold Func.isWrapper; first | (rw [if_pos (by decide +kernel)]; kernel_rfl) | (rw [if_neg (by decide +kernel)]; exact ⟨rfl, rfl⟩))
    (fun os started H enc _ => any_lifted os started H enc)
end Go.Proofs.YtpemdpfageikfaaGreatDoor.R
namespace Go.Proofs.YtpemdpfageikfaaGreatDoor
theorem any_card : Rows.FnUseAnyCardSaid :=
  Claim7.holds_tied_plain_at .later [] [.data, .listed, .data, .called, .called, .data, .zero, .pinned, .pinned] true (true, "9f36d45dec91771d15b1f38b5a111e20a64234aea24ffbb542fea7904a6c9561") false R.any_holds (fun _ h => by cases h) (by kernel_rfl) (fun _ h => by cases h) fnUseAny_row_tie rfl ⟨rfl, rfl⟩ (by kernel_rfl) rfl
    (fun f fn hf hfn => by
      obtain rfl : f = 3 := Option.some.inj ((show Tryz.prog.funcNamed "loop.example/pub-g01499/laws.FnUseAny" = some 3 by kernel_rfl).symm.trans hf) |>.symm
      obtain rfl : fn = Tryz.f3 := (Option.some.inj (Tryz.func3.symm.trans hfn)).symm
      exact ⟨by kernel_rfl, fun j t ht => by
        rw [Tryz.params3] at ht
        have hm : t ∈ [9, 9] := by simpa using Array.mem_of_getElem? ht
        have hall : ([9, 9].all fun u => !Tryz.prog.wantsStandIn u) = true := by kernel_rfl
        exact (show Tryz.prog.wantsStandIn t = false by simpa using List.all_eq_true.1 hall t hm)⟩)
    (by kernel_rfl)
end Go.Proofs.YtpemdpfageikfaaGreatDoor
