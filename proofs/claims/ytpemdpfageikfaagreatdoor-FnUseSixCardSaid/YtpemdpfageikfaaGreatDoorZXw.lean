/- The body of FnUseSix: words. -/
import Derived.Test.YtpemdpfageikfaaGreatDoorZV
import Derived.Deep.DeepCutAuto
import Derived.Deep.CutBlock
import Derived.Deep.RegionHeld3
import Derived.Deep.MidRow
set_option linter.unusedVariables false
set_option linter.unusedSimpArgs false
/- The body of FnUseSix, by what it calls: words. -/
namespace Go.Proofs.YtpemdpfageikfaaGreatDoor.R
open Go.RowKit Go.Proofs.YtpemdpfageikfaaGreatDoorW.PrintWords Go.Proofs.YtpemdpfageikfaaGreatDoorW.PrintLast Go.Proofs.YtpemdpfageikfaaGreatDoorW.PrintMore
attribute [local go_sem] max2_int min2_int max_two min_two

theorem takeH {P : Program} {md : Region.Mode} {ops : Array Oper} {Q : Exit → Act → World → Prop} {S : World → Prop} {i : Nat} {N : Option Tmp} {oi : Oper} {v : Value} {fuel : Nat} {listed : Array Bool} {a : Act} {w : World} (hi : ops[i]? = some oi) (hN : oi.dst = N)
    (hs : Region.noSelect ops = true) (hf : Region.free md ops listed i = true) (hr : (Region.ready md ops listed).contains i = true)
    (hQ : ∀ c a w, Q (.panic c) (a.put oi.dst v) w → Q (.panic c) a w) (hy : YieldsIf P ops S oi v a) (hS : S w)
    (h : wpAnyH P md ops Q S fuel (listed.setIfInBounds i true) (a.put N v) w) : wpAnyH P md ops Q S (fuel + 1) listed a w := by
  subst hN
  exact wpAnyH_take hi hs hf hr hQ hy hS h
theorem info28 : (Tryz.prog.info? 28).map (fun i => i.size) = some 16 := by kernel_rfl
theorem rangeS {wr : World} {b : Nat} {va vb : Array Value} (h : (∀ k, wr.cell? ⟨b, k, none⟩ = va[k]?) ∧ ∀ k, wr.cell? ⟨b + 1, k, none⟩ = vb[k]?) : wr.rangeAt b 0 va.toList ∧ wr.rangeAt (b + 1) 0 vb.toList := by
  refine ⟨fun j v hv => ?_, fun j v hv => ?_⟩
  · rw [Nat.zero_add, h.1 j, ← Array.getElem?_toList]; exact hv
  · rw [Nat.zero_add, h.2 j, ← Array.getElem?_toList]; exact hv
theorem belowS {w : World} {b : Nat} {xs ys : List Value} {W : World} (h : Below w.heap.size w W ∧ W.rangeAt b 0 xs ∧ W.rangeAt (b + 1) 0 ys) : Below w.heap.size w W := h.1
theorem keepS {w : World} {b : Nat} {xs ys : List Value} {W W1 : World} (h : Below w.heap.size w W ∧ W.rangeAt b 0 xs ∧ W.rangeAt (b + 1) 0 ys) (hb : Below W.heap.size W W1) : Below w.heap.size w W1 ∧ W1.rangeAt b 0 xs ∧ W1.rangeAt (b + 1) 0 ys :=
  ⟨blw h.1 hb, fun j v hv => pw_cell_below hb (h.2.1 j v hv), fun j v hv => pw_cell_below hb (h.2.2 j v hv)⟩
end Go.Proofs.YtpemdpfageikfaaGreatDoor.R
