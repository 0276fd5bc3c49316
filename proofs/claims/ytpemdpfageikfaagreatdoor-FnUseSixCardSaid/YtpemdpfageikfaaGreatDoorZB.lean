/- AddrFrom4 and AddrFrom16. -/
import Derived.Test.YtpemdpfageikfaaGreatDoorZA
import Derived.Deep.RegionWith
set_option linter.unusedVariables false
set_option linter.unusedSimpArgs false
/-
  The functions of netip that make an Addr out of bytes and bytes out of an Addr.
-/
namespace Go.Proofs.YtpemdpfageikfaaGreatDoor.R
open Go.RowKit Go.Proofs.YtpemdpfageikfaaGreatDoorW.PrintWords Go.Proofs.YtpemdpfageikfaaGreatDoorW.PrintLast Go.Proofs.YtpemdpfageikfaaGreatDoorW.PrintMore

theorem addrFrom4 (a b c d : Int) (p4 p6 : Addr) (w : World) (hE : Env w p4 p6) (ha : 0 ≤ a ∧ a ≤ 255) (hb : 0 ≤ b ∧ b ≤ 255) (hc : 0 ≤ c ∧ c ≤ 255) (hd : 0 ≤ d ∧ d ≤ 255) :
    Calls Tryz.prog 114 #[.agg #[.int .u8 a, .int .u8 b, .int .u8 c, .int .u8 d]] w fun e w' => e = .returned (.agg #[.int .u64 0, .int .u64 (281470681743360 + a * 16777216 + b * 65536 + c * 256 + d), .pointer (some p4)]) ∧ Below w.heap.size w w' := by
  have h3 := fun o o' => ((hE.alloc o).alloc o').g3
  clear hE
  obtain ⟨a0, a1⟩ := ha
  obtain ⟨b0, b1⟩ := hb
  obtain ⟨c0, c1⟩ := hc
  obtain ⟨d0, d1⟩ := hd
  go_enter Tryz.func114, Tryz.ntmps114
  go_wp2
  go_returns
  exact ⟨by rw [lo4 a b c d ⟨a0, a1⟩ ⟨b0, b1⟩ ⟨c0, c1⟩ ⟨d0, d1⟩], by go_grown⟩

/-- A row of bytes that lies in a block, from a place on. -/
theorem C_block {w : World} {b : Nat} {l : List Int} {T : TypeId} {fr : Nat × Nat} (h : w.heap[b]? = some (.cells (nums .u8 l).toArray T fr)) (off n : Nat) (hn : off + n ≤ l.length) (hmax : n ≤ 9223372036854775807) :
    Kd.C (Kd.int .u8) w (some ⟨b, off, none⟩) n ((l.drop off).take n) := by
  refine ⟨by simp; omega, hmax, fun _ => ⟨_, rfl, fun j p hj => ⟨[.int .u8 p], rfl, rfl, fun i u hi => ?_⟩⟩⟩
  obtain ⟨rfl, rfl⟩ : i = 0 ∧ u = .int .u8 p := by
    cases i with
    | zero => simpa [eq_comm] using hi
    | succ i => simp at hi
  have hj' : j < n ∧ l[off + j]? = some p := by
    rw [List.getElem?_take] at hj
    split at hj
    · rw [List.getElem?_drop] at hj; exact ⟨‹_›, hj⟩
    · cases hj
  have e : ((⟨b, off, none⟩ : Addr).add (j * (Kd.int .u8).sz + 0)) = ⟨b, off + j, none⟩ := by
    show (⟨b, off, none⟩ : Addr).add (j * 1 + 0) = _
    unfold Addr.add
    split <;> simp_all
  rw [e]
  simp only [World.cell?, h]
  simp [nums, hj'.2]

theorem add_place (b o j : Nat) : (⟨b, o, none⟩ : Addr).add j = ⟨b, o + j, none⟩ := by unfold Addr.add; split <;> simp_all
theorem heap_old (w : World) (o : Obj) (k : Nat) (h : k < w.heap.size) : (w.alloc o).heap[k]? = w.heap[k]? := Below.heap_alloc w o k h
theorem heap_new (w : World) (o : Obj) : (w.alloc o).heap[w.heap.size]? = some o := by
  show (w.heap.push o)[w.heap.size]? = some o
  simp
/-- BEUint64 over eight bytes that lie in a block, in whatever later world. -/
theorem beuint64_at (W0 : World) (b off c : Nat) (l : List Int) (T : TypeId) (r : Int) (hb : W0.heap[b]? = some (.cells (nums .u8 l).toArray T (0, 0))) (hlt : b < W0.heap.size) (ho : off + 8 ≤ l.length) (hc : 8 ≤ c) (hr : Q.byteorder_BEUint64.f ((l.drop off).take 8) = some r) :
    ∀ W, Below W0.heap.size W0 W → Calls Tryz.prog 142 #[.slice (some ⟨b, off, none⟩) 8 c] W fun e w' => e = .returned (.int .u64 r) ∧ ∃ m, W.drewN m = w' := by
  intro W hW
  have hl : ((l.drop off).take 8).length = 8 := by simp; omega
  have hC := C_block (w := W) ((hW.block b hlt).trans hb) off 8 ho (by omega)
  have := Q.byteorder_BEUint64.calls (some ⟨b, off, none⟩) c ((l.drop off).take 8) r W (by rw [hl]; exact hC) (by omega) hr
  rw [hl] at this
  refine this.mono ?_
  rintro e w' ⟨rfl, ⟨m, rfl⟩⟩
  exact ⟨rfl, m, rfl⟩

set_option maxHeartbeats 4000000 in
theorem addrFrom16 (l : List Int) (hl : l.length = 16) (hi lo : Int) (p4 p6 : Addr) (w : World) (hE : Env w p4 p6) (h1 : Q.byteorder_BEUint64.f (l.take 8) = some hi) (h2 : Q.byteorder_BEUint64.f (l.drop 8) = some lo) :
    Calls Tryz.prog 118 #[.agg (nums .u8 l).toArray] w fun e w' => e = .returned (.agg #[.int .u64 hi, .int .u64 lo, .pointer (some p6)]) ∧ Below w.heap.size w w' := by
  have h2' : Q.byteorder_BEUint64.f ((l.drop 8).take 8) = some lo := by rw [List.take_of_length_le (by simp; omega)]; exact h2
  have hsz : (nums .u8 l).toArray.size = 16 := by simp [nums, hl]
  obtain ⟨W0, hW0⟩ : ∃ W0, W0 = (w.alloc (Obj.cells (nums .u8 l).toArray 28)).alloc (Obj.cells #[Value.int IntKind.u64 0, Value.int IntKind.u64 0, Value.pointer none] 102) := ⟨_, rfl⟩
  have hb : W0.heap[w.heap.size]? = some (.cells (nums .u8 l).toArray 28) := by rw [hW0, heap_old _ _ _ (by simp), heap_new]
  have cA := Lib.hid (beuint64_at W0 w.heap.size 0 16 l 28 hi hb (by rw [hW0]; simp; omega) (by omega) (by omega) h1)
  have cB := Lib.hid (beuint64_at W0 w.heap.size 8 8 l 28 lo hb (by rw [hW0]; simp; omega) (by omega) (by omega) h2')
  have hg := Lib.hid (fun o o' => ((hE.alloc o).alloc o').g7)
  clear h1 h2 h2' hE hb
  go_enter Tryz.func118, Tryz.ntmps118
  go_wp2
  have h7 : W0.cell? ⟨7, 0, none⟩ = some (.pointer (some p6)) := by rw [hW0]; exact hg.out _ _
  subst hW0
  go_region_with (first | (go_at_call 142; (with_reducible refine (cA.out _ ?_).mono ?_); (repeat (first | exact Below.refl _ _ | apply below_drew | apply pw_below_drewN)); rintro e w1 ⟨rfl, m, rfl⟩) | (go_at_call 142; (with_reducible refine (cB.out _ ?_).mono ?_); (repeat (first | exact Below.refl _ _ | apply below_drew | apply pw_below_drewN)); rintro e w1 ⟨rfl, m, rfl⟩))
  all_goals (go_wp2; go_returns; exact ⟨rfl, by (go_grown; exact pw_below_drewN (by go_grown) _)⟩)
end Go.Proofs.YtpemdpfageikfaaGreatDoor.R
