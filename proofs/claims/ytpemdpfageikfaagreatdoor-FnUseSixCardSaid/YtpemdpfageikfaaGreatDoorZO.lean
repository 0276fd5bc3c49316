/- What the row's list gives. -/
import Derived.Test.YtpemdpfageikfaaGreatDoorZA
import Derived.Test.YtpemdpfageikfaaGreatDoorTie
import Derived.ProofKit
import Derived.Lay
import Derived.SevenTiedAt
import Derived.OpenVars
import Derived.Lib.LaidTab
set_option linter.unusedVariables false
set_option linter.unusedSimpArgs false
/- What the row's list gives: the package variables that the code reads. -/
namespace Go.Proofs.YtpemdpfageikfaaGreatDoor.R
open Go.ChangeShapes Go.WideShapes Go.ChangeAt Go.RowKit

set_option maxRecDepth 100000
theorem own : ownKnob Tryz.prog.godebug = none := by kernel_rfl
theorem cells98 : Tryz.prog.cellsOf 98 = 1 := by kernel_rfl
theorem cells100 : Tryz.prog.cellsOf 100 = 1 := by kernel_rfl
theorem cells170 : Tryz.prog.cellsOf 170 = 2 := by kernel_rfl
theorem cells4 : Tryz.prog.cellsOf 4 = 1 := by kernel_rfl
theorem cells5 : Tryz.prog.cellsOf 5 = 1 := by kernel_rfl
theorem cells9 : Tryz.prog.cellsOf 9 = 1 := by kernel_rfl
theorem cells124 : Tryz.prog.cellsOf 124 = 256 := by kernel_rfl
theorem laidOut : laidOutB Tryz.prog = true := by kernel_rfl
theorem cells_at {W : World} {a : Addr} {n : Nat} {cs : List Value} (h : W.cells? 0 a n = some cs) (i : Nat) (hi : i < n) : W.cell? (a.add i) = cs[i]? := by
  unfold World.cells? at h
  rw [if_pos (Nat.zero_le _)] at h
  have hl := Lib.mapM_length h
  have hl2 : cs.length = n := by simpa using hl
  have := Lib.mapM_at h i i (by simp [hi])
  obtain ⟨b, h1, h2⟩ := this
  rw [h2, ← h1]
theorem var_cell {W : World} {name : String} {g : Nat} {cs : Array Value} (hg : Tryz.prog.globalNamed name = some g) (h : W.var? Tryz.prog name = some cs) (i : Nat) : W.cell? ⟨g, i, none⟩ = cs[i]? ∧ g < W.heap.size := by
  unfold World.var? at h
  rw [hg, Option.bind_some] at h
  split at h
  · rename_i c t f e
    cases h
    refine ⟨by simp [World.cell?, e], ?_⟩
    exact (Array.getElem?_eq_some_iff.1 e).1
  · cases h
/-- A handle of netip: the pointer, and what it points to. -/
theorem z_of (name : String) (g : Nat) (b : Bool) (W : World) (hg : Tryz.prog.globalNamed name = some g) (ht : (Tryz.prog.globals[g]?).map (·.type) = some 100)
    (h : laidMet Tryz.prog [(name, .agg [.ptr (.agg [.lit (.bool b), .lit (.string [])])])] W) :
    ∃ p, W.cell? ⟨g, 0, none⟩ = some (.pointer (some p)) ∧ W.cell? p = some (.bool b) ∧ W.cell? (p.add 1) = some (.string ⟨#[]⟩) ∧ ∃ c t, W.heap[p.block]? = some (.cells c t (0, 0)) := by
  obtain ⟨ps, ⟨g', t, cs, fuel, p, q, e1, e2, e3, e4, e5, e6⟩, hnd, hcell⟩ := h
  obtain rfl : g' = g := Option.some.inj (e1.symm.trans hg)
  obtain rfl : t = 100 := Option.some.inj (e2.symm.trans ht)
  obtain ⟨y0, n, hx, hl, h0⟩ := trod_struct1 Tryz.underlying100 e4
  have hl1 : cs.toList.length = 1 := hl.trans cells100
  have h98 : DataW.trod (fun _ => ()) Tryz.prog W 0 (fun _ => true) false n 98 cs.toList = some y0 := by
    have h00 : DataW.trod (fun _ => ()) Tryz.prog W 0 (fun _ => true) false n 98 ((cs.toList.drop 0).take (Tryz.prog.cellsOf 98)) = some y0 := h0
    rw [cells98, List.drop_zero, List.take_of_length_le (by omega)] at h00
    exact h00
  simp only [Prod.mk.injEq, DataW.agg.injEq, List.cons.injEq, and_true] at hx
  obtain ⟨hx1, rfl⟩ := hx
  rcases DataW.trod_pointer Tryz.underlying98 h98 with ⟨_, rfl⟩ | ⟨a, cs', y, m, _, hcs, rfl, hr, hy⟩
  · cases hx1
  · have hx2 : DataW.agg [.lit (.bool b), .lit (.string [])] = y.1 := by
      simpa using hx1
    obtain ⟨y1, y2, m', hxy, hl2, h1, h2⟩ := trod_struct2 Tryz.underlying170 hy
    rw [hxy] at hx2
    simp only [DataW.agg.injEq, List.cons.injEq, and_true] at hx2
    have hl3 : cs'.length = 2 := hl2.trans cells170
    rw [cells170] at hr
    have k0 := cells_at hr 0 (by omega)
    have k1 := cells_at hr 1 (by omega)
    match cs', hl3 with
    | [v0, v1], _ =>
      have h1' : DataW.trod (fun _ => ()) Tryz.prog W 0 (fun _ => true) false m' 4 [v0] = some y1 := by
        have h00 : DataW.trod (fun _ => ()) Tryz.prog W 0 (fun _ => true) false m' 4 (([v0, v1].drop 0).take (Tryz.prog.cellsOf 4)) = some y1 := h1
        rw [cells4] at h00
        exact h00
      have h2' : DataW.trod (fun _ => ()) Tryz.prog W 0 (fun _ => true) false m' 9 [v1] = some y2 := by
        have h00 : DataW.trod (fun _ => ()) Tryz.prog W 0 (fun _ => true) false m' 9 (([v0, v1].drop 1).take (Tryz.prog.cellsOf 9)) = some y2 := h2
        rw [cells9] at h00
        exact h00
      obtain ⟨b', hb1, rfl⟩ := DataW.trod_bool Tryz.underlying4 h1'
      obtain ⟨s', hs1, rfl, _⟩ := DataW.trod_string Tryz.underlying9 h2'
      cases hb1
      cases hs1
      obtain ⟨hb2, hs2⟩ := hx2
      cases hb2
      have hs3 : s'.data.toList = [] := by simpa using hs2.symm
      obtain rfl : s' = ⟨#[]⟩ := by
        cases s' with
        | mk d =>
          have : d = #[] := by simpa using hs3
          rw [this]
      have hc := (var_cell hg e3 0).1
      have hc0 : cs[0]? = some (.pointer (some a)) := by rw [← Array.getElem?_toList, hcs]; rfl
      refine ⟨a, hc.trans hc0, ?_, k1, ?_⟩
      · have : a.add 0 = a := by cases a; rfl
        rw [← this]
        exact k0
      · refine (hcell a.block a.off ?_).1
        rw [e6]
        refine List.mem_append.2 (Or.inl (List.mem_append.2 (Or.inr (List.mem_append.2 (Or.inl ?_)))))
        rw [cells170]
        simp [MemPlace.row, List.range_succ]
theorem laid_one {l : List (String × DataW Unit)} {W : World} (h : laidMetH Tryz.prog l W) (n : String) (d : DataW Unit) (hf : l.filter (fun x => x.1 == n) = [(n, d)]) (hd : d.handleName?.isNone = true) : laidMet Tryz.prog [(n, d)] W := by
  have := laidMetH.filter (fun x => x.1 == n) h
  rw [hf, MakeChecks.laidMetH_plain _ _ _ (by simp [hd])] at this
  exact this
theorem g_z0 : Tryz.prog.globalNamed "net/netip.z0" = some 2 := by kernel_rfl
theorem g_z4 : Tryz.prog.globalNamed "net/netip.z4" = some 3 := by kernel_rfl
theorem g_z6 : Tryz.prog.globalNamed "net/netip.z6noz" = some 7 := by kernel_rfl
theorem g_tab : Tryz.prog.globalNamed "loop.example/pub-g01499/pub/neturl.table" = some 10 := by kernel_rfl
theorem g_sp : Tryz.prog.globalNamed "strings.asciiSpace" = some 1 := by kernel_rfl
theorem t_z0 : (Tryz.prog.globals[2]?).map (·.type) = some 100 := by kernel_rfl
theorem t_z4 : (Tryz.prog.globals[3]?).map (·.type) = some 100 := by kernel_rfl
theorem t_z6 : (Tryz.prog.globals[7]?).map (·.type) = some 100 := by kernel_rfl
theorem t_sp : (Tryz.prog.globals[1]?).map (·.type) = some 124 := by kernel_rfl
/-- z0: nothing. -/
theorem z0_of (W : World) (h : laidMet Tryz.prog [("net/netip.z0", .agg [.nil])] W) : W.cell? ⟨2, 0, none⟩ = some (.pointer none) := by
  obtain ⟨ps, ⟨g', t, cs, fuel, p, q, e1, e2, e3, e4, e5, e6⟩, hnd, hcell⟩ := h
  obtain rfl : g' = 2 := Option.some.inj (e1.symm.trans g_z0)
  obtain rfl : t = 100 := Option.some.inj (e2.symm.trans t_z0)
  obtain ⟨y0, n, hx, hl, h0⟩ := trod_struct1 Tryz.underlying100 e4
  have hl1 : cs.toList.length = 1 := hl.trans cells100
  have h98 : DataW.trod (fun _ => ()) Tryz.prog W 0 (fun _ => true) false n 98 cs.toList = some y0 := by
    have h00 : DataW.trod (fun _ => ()) Tryz.prog W 0 (fun _ => true) false n 98 ((cs.toList.drop 0).take (Tryz.prog.cellsOf 98)) = some y0 := h0
    rw [cells98, List.drop_zero, List.take_of_length_le (by omega)] at h00
    exact h00
  simp only [Prod.mk.injEq, DataW.agg.injEq, List.cons.injEq, and_true] at hx
  obtain ⟨hx1, rfl⟩ := hx
  rcases DataW.trod_pointer Tryz.underlying98 h98 with ⟨hcs, rfl⟩ | ⟨a, cs', y, m, _, hcs, rfl, hr, hy⟩
  · have hc0 : cs[0]? = some (.pointer none) := by rw [← Array.getElem?_toList, hcs]; rfl
    exact (var_cell g_z0 e3 0).1.trans hc0
  · cases hx1
theorem var_lt {name : String} {g : Nat} {d : DataW Unit} {W : World} (hg : Tryz.prog.globalNamed name = some g) (h : laidMet Tryz.prog [(name, d)] W) : g < W.heap.size := by
  obtain ⟨ps, ⟨g', t, cs, fuel, p, q, e1, e2, e3, e4, e5, e6⟩, hnd, hcell⟩ := h
  exact (var_cell hg e3 0).2
theorem env_of (l : List (String × DataW Unit)) (W : World) (h : laidMetH Tryz.prog l W)
    (f0 : l.filter (fun x => x.1 == "net/netip.z0") = [("net/netip.z0", Rows.laid_net_netip_z0)]) (f4 : l.filter (fun x => x.1 == "net/netip.z4") = [("net/netip.z4", Rows.laid_net_netip_z4)])
    (f6 : l.filter (fun x => x.1 == "net/netip.z6noz") = [("net/netip.z6noz", Rows.laid_net_netip_z6noz)]) (ft : l.filter (fun x => x.1 == "loop.example/pub-g01499/pub/neturl.table") = [("loop.example/pub-g01499/pub/neturl.table", Rows.laid_loop_example_pub_g01499_pub_neturl_table)])
    (fs : l.filter (fun x => x.1 == "strings.asciiSpace") = [("strings.asciiSpace", Rows.laid_strings_asciiSpace)]) : ∃ p4 p6, Env W p4 p6 := by
  have h0 := z0_of W (laid_one h _ _ f0 rfl)
  obtain ⟨p4, k4, a4, b4, c4⟩ := z_of _ 3 false W g_z4 t_z4 (laid_one h _ _ f4 rfl)
  obtain ⟨p6, k6, a6, b6, c6⟩ := z_of _ 7 true W g_z6 t_z6 (laid_one h _ _ f6 rfl)
  have hsz := var_lt g_tab (laid_one h _ _ ft rfl)
  refine ⟨p4, p6, hsz, h0, k4, k6, ?_, c4, c6, a4, b4, a6, b6, ?_⟩
  · intro e
    rw [e, a6] at a4
    cases a4
  · have h1 := laidMetH.filter (fun x => x.1 == "strings.asciiSpace") h
    rw [fs] at h1
    exact Lib.tabIs_of_head (rest := []) g_sp t_sp Tryz.underlying124 Tryz.underlying5 cells5 cells124 h1
end Go.Proofs.YtpemdpfageikfaaGreatDoor.R
