/- FnUseSix: an address of 128 bits goes through the proxy just where no entry is for it: an address of 128 bits for itself, and one with a slash and a number up to 128 for those that begin with the same bits: the row and its tied card. Conditions: none beyond the row's own. -/
import Derived.Test.YtpemdpfageikfaaGreatDoorZU
import Derived.Test.YtpemdpfageikfaaGreatDoorZS
import Derived.Test.YtpemdpfageikfaaGreatDoorZW
import Derived.Test.YtpemdpfageikfaaGreatDoorZX
import Derived.Test.YtpemdpfageikfaaGreatDoorZY
import Derived.Test.YtpemdpfageikfaaGreatDoorZO
import Derived.Test.YtpemdpfageikfaaGreatDoorCards
set_option linter.unusedVariables false
set_option linter.unusedSimpArgs false
/- FnUseSix says true. -/
namespace Go.Proofs.YtpemdpfageikfaaGreatDoor.R
open Go.RowKit Go.Proofs.YtpemdpfageikfaaGreatDoorW.PrintWords Go.Proofs.YtpemdpfageikfaaGreatDoorW.PrintLast Go.Proofs.YtpemdpfageikfaaGreatDoorW.PrintMore

/-- Whether a text is a port. -/
def portL (port : ByteArray) : Bool := decide (port.size ≤ 20) && (port.data.toList.all fun x => x.toNat < 128) && (cnt 58 port.data.toList + cnt 91 port.data.toList + cnt 93 port.data.toList == 0)
theorem port_f (port : ByteArray) (hs : port.size ≤ 2147483647) (k : Nat) (hk : port.size < k) : Q.laws_isPort.f k port = some (portL port) := by
  unfold Q.laws_isPort.f portL
  by_cases h20 : port.size ≤ 20
  · rw [if_pos (by omega), ascii_f port (by omega) k hk]
    have c1 := count_f port 58 (by omega) k hk
    have c2 := count_f port 91 (by omega) k hk
    have c3 := count_f port 93 (by omega) k hk
    rw [show ((58 : Nat) : Int) = 58 from rfl] at c1
    rw [show ((91 : Nat) : Int) = 91 from rfl] at c2
    rw [show ((93 : Nat) : Int) = 93 from rfl] at c3
    have l1 : cnt 58 port.data.toList ≤ port.size := List.countP_le_length
    have l2 : cnt 91 port.data.toList ≤ port.size := List.countP_le_length
    have l3 : cnt 93 port.data.toList ≤ port.size := List.countP_le_length
    simp only [Option.bind_some]
    cases ha : port.data.toList.all fun x => x.toNat < 128 with
    | false => simp
    | true =>
      rw [if_pos rfl, c1, c2, c3]
      simp only [Option.bind_some]
      congr 1
      rw [show wrap64 (wrap64 (((cnt 58 port.data.toList : Nat) : Int) + ((cnt 91 port.data.toList : Nat) : Int)) + ((cnt 93 port.data.toList : Nat) : Int)) = ((cnt 58 port.data.toList + cnt 91 port.data.toList + cnt 93 port.data.toList : Nat) : Int) from by unfold wrap64; omega]
      rw [decide_eq_true h20, Bool.true_and, Bool.true_and, Bool.eq_iff_iff, beq_iff_eq, beq_iff_eq]
      omega
  · rw [if_neg (by omega), decide_eq_false h20]
    rfl
def zer : List Nat := List.replicate 16 0
theorem zer_ints : zer16 = ints zer := rfl
theorem one_cells (va : Array Value) (h : (va.toList.all Value.oneCell') = true) : ∀ v ∈ va.toList, v.oneCell' = true := fun v hv => List.all_eq_true.1 h v hv
theorem six_core (a0 a1 a2 a3 a4 a5 a6 a7 a8 a9 a10 a11 a12 a13 a14 a15 c0 c1 c2 c3 c4 c5 c6 c7 c8 c9 c10 c11 c12 c13 c14 c15 : Nat) (ba : ∀ x ∈ [a0, a1, a2, a3, a4, a5, a6, a7, a8, a9, a10, a11, a12, a13, a14, a15], x ≤ 255) (bc : ∀ x ∈ [c0, c1, c2, c3, c4, c5, c6, c7, c8, c9, c10, c11, c12, c13, c14, c15], x ≤ 255) (A1 A2 : Option Addr) (n1 k1 n2 k2 : Nat) (bits : Int) (port no : ByteArray) (p4 p6 : Addr) (w : World) (hE : EnvB w w.heap.size p4 p6)
    (hs1 : n1 ≤ 2147483647) (hs2 : n2 ≤ 2147483647) (hs3 : port.size ≤ 2147483647) (hs4 : no.size ≤ 2147483647)
    (h14a : ∀ wx, Below w.heap.size w wx → Calls Tryz.prog 14 #[.slice A1 n1 k1] wx fun e w' => e = .returned (.agg #[Value.int .u8 (a0 : Int), Value.int .u8 (a1 : Int), Value.int .u8 (a2 : Int), Value.int .u8 (a3 : Int), Value.int .u8 (a4 : Int), Value.int .u8 (a5 : Int), Value.int .u8 (a6 : Int), Value.int .u8 (a7 : Int), Value.int .u8 (a8 : Int), Value.int .u8 (a9 : Int), Value.int .u8 (a10 : Int), Value.int .u8 (a11 : Int), Value.int .u8 (a12 : Int), Value.int .u8 (a13 : Int), Value.int .u8 (a14 : Int), Value.int .u8 (a15 : Int)]) ∧ Below wx.heap.size wx w')
    (h14b : ∀ wx, Below w.heap.size w wx → Calls Tryz.prog 14 #[.slice A2 n2 k2] wx fun e w' => e = .returned (.agg #[Value.int .u8 (c0 : Int), Value.int .u8 (c1 : Int), Value.int .u8 (c2 : Int), Value.int .u8 (c3 : Int), Value.int .u8 (c4 : Int), Value.int .u8 (c5 : Int), Value.int .u8 (c6 : Int), Value.int .u8 (c7 : Int), Value.int .u8 (c8 : Int), Value.int .u8 (c9 : Int), Value.int .u8 (c10 : Int), Value.int .u8 (c11 : Int), Value.int .u8 (c12 : Int), Value.int .u8 (c13 : Int), Value.int .u8 (c14 : Int), Value.int .u8 (c15 : Int)]) ∧ Below wx.heap.size wx w') :
    Calls Tryz.prog 5 #[.slice A1 n1 k1, .int .i64 bits, .slice A2 n2 k2, .string port, .string no] w (Says true w) := by
  have hx := fun wx (hb : Below w.heap.size w wx) => (hE.keep hb).up
  have hW : ∀ wx, Below w.heap.size w wx → Calls Tryz.prog 11 #[] wx (Says true wx) := fun wx hb => works p4 p6 wx (hx wx hb)
  obtain ⟨k, hk⟩ : ∃ k, k = 3 * no.size + port.size + 4000 := ⟨_, rfl⟩
  have h8 := fun wx => Q.spec_IsSaid.calls k no _ wx (said_f no (by omega) k (by omega))
  have h16 : ∀ wx, Calls Tryz.prog 16 #[.string port] wx fun e w' => e = .returned (.bool (portL port)) ∧ Below wx.heap.size wx w' := fun wx => (Q.laws_isPort.calls k port _ wx (port_f port hs3 k (by omega))).mono (by
    rintro e w' ⟨rfl, m, rfl⟩
    exact ⟨rfl, pw_below_drewN (Below.refl _ _) m⟩)
  have la : ([a0, a1, a2, a3, a4, a5, a6, a7, a8, a9, a10, a11, a12, a13, a14, a15] : List Nat).length = 16 := rfl
  have lc : ([c0, c1, c2, c3, c4, c5, c6, c7, c8, c9, c10, c11, c12, c13, c14, c15] : List Nat).length = 16 := rfl
  have hpl : ∀ l : List Nat, l.length = 16 → (∀ x ∈ l, x ≤ 255) → sameBits (ints l) zer16 80 = eqPre 80 l (List.replicate 16 0) := fun l h hb => by
    rw [zer_ints, sameBits_pre l zer 80 (by rw [h]; rfl) (fun x hx => by have := hb x hx; omega) (by decide) (by omega)]
    rfl
  have h15a : ∀ wx, Calls Tryz.prog 15 #[.agg #[Value.int .u8 (a0 : Int), Value.int .u8 (a1 : Int), Value.int .u8 (a2 : Int), Value.int .u8 (a3 : Int), Value.int .u8 (a4 : Int), Value.int .u8 (a5 : Int), Value.int .u8 (a6 : Int), Value.int .u8 (a7 : Int), Value.int .u8 (a8 : Int), Value.int .u8 (a9 : Int), Value.int .u8 (a10 : Int), Value.int .u8 (a11 : Int), Value.int .u8 (a12 : Int), Value.int .u8 (a13 : Int), Value.int .u8 (a14 : Int), Value.int .u8 (a15 : Int)]] wx fun e w' => e = .returned (.bool (!eqPre 80 [a0, a1, a2, a3, a4, a5, a6, a7, a8, a9, a10, a11, a12, a13, a14, a15] (List.replicate 16 0))) ∧ Below wx.heap.size wx w' := fun wx => by
    have := isPlain15 (a0 : Int) (a1 : Int) (a2 : Int) (a3 : Int) (a4 : Int) (a5 : Int) (a6 : Int) (a7 : Int) (a8 : Int) (a9 : Int) (a10 : Int) (a11 : Int) (a12 : Int) (a13 : Int) (a14 : Int) (a15 : Int) wx
    rw [show ([(a0 : Int), (a1 : Int), (a2 : Int), (a3 : Int), (a4 : Int), (a5 : Int), (a6 : Int), (a7 : Int), (a8 : Int), (a9 : Int), (a10 : Int), (a11 : Int), (a12 : Int), (a13 : Int), (a14 : Int), (a15 : Int)] : List Int) = ints [a0, a1, a2, a3, a4, a5, a6, a7, a8, a9, a10, a11, a12, a13, a14, a15] from rfl, hpl _ la ba] at this
    exact this
  have h15b : ∀ wx, Calls Tryz.prog 15 #[.agg #[Value.int .u8 (c0 : Int), Value.int .u8 (c1 : Int), Value.int .u8 (c2 : Int), Value.int .u8 (c3 : Int), Value.int .u8 (c4 : Int), Value.int .u8 (c5 : Int), Value.int .u8 (c6 : Int), Value.int .u8 (c7 : Int), Value.int .u8 (c8 : Int), Value.int .u8 (c9 : Int), Value.int .u8 (c10 : Int), Value.int .u8 (c11 : Int), Value.int .u8 (c12 : Int), Value.int .u8 (c13 : Int), Value.int .u8 (c14 : Int), Value.int .u8 (c15 : Int)]] wx fun e w' => e = .returned (.bool (!eqPre 80 [c0, c1, c2, c3, c4, c5, c6, c7, c8, c9, c10, c11, c12, c13, c14, c15] (List.replicate 16 0))) ∧ Below wx.heap.size wx w' := fun wx => by
    have := isPlain15 (c0 : Int) (c1 : Int) (c2 : Int) (c3 : Int) (c4 : Int) (c5 : Int) (c6 : Int) (c7 : Int) (c8 : Int) (c9 : Int) (c10 : Int) (c11 : Int) (c12 : Int) (c13 : Int) (c14 : Int) (c15 : Int) wx
    rw [show ([(c0 : Int), (c1 : Int), (c2 : Int), (c3 : Int), (c4 : Int), (c5 : Int), (c6 : Int), (c7 : Int), (c8 : Int), (c9 : Int), (c10 : Int), (c11 : Int), (c12 : Int), (c13 : Int), (c14 : Int), (c15 : Int)] : List Int) = ints [c0, c1, c2, c3, c4, c5, c6, c7, c8, c9, c10, c11, c12, c13, c14, c15] from rfl, hpl _ lc bc] at this
    exact this
  obtain ⟨p1, hp1⟩ : ∃ p1, (!eqPre 80 [a0, a1, a2, a3, a4, a5, a6, a7, a8, a9, a10, a11, a12, a13, a14, a15] (List.replicate 16 0)) = p1 := ⟨_, rfl⟩
  obtain ⟨p2, hp2⟩ : ∃ p2, (!eqPre 80 [c0, c1, c2, c3, c4, c5, c6, c7, c8, c9, c10, c11, c12, c13, c14, c15] (List.replicate 16 0)) = p2 := ⟨_, rfl⟩
  rw [hp1] at h15a
  rw [hp2] at h15b
  have o1 := one_cells #[Value.int .u8 (a0 : Int), Value.int .u8 (a1 : Int), Value.int .u8 (a2 : Int), Value.int .u8 (a3 : Int), Value.int .u8 (a4 : Int), Value.int .u8 (a5 : Int), Value.int .u8 (a6 : Int), Value.int .u8 (a7 : Int), Value.int .u8 (a8 : Int), Value.int .u8 (a9 : Int), Value.int .u8 (a10 : Int), Value.int .u8 (a11 : Int), Value.int .u8 (a12 : Int), Value.int .u8 (a13 : Int), Value.int .u8 (a14 : Int), Value.int .u8 (a15 : Int)] rfl
  have o2 := one_cells #[Value.int .u8 (c0 : Int), Value.int .u8 (c1 : Int), Value.int .u8 (c2 : Int), Value.int .u8 (c3 : Int), Value.int .u8 (c4 : Int), Value.int .u8 (c5 : Int), Value.int .u8 (c6 : Int), Value.int .u8 (c7 : Int), Value.int .u8 (c8 : Int), Value.int .u8 (c9 : Int), Value.int .u8 (c10 : Int), Value.int .u8 (c11 : Int), Value.int .u8 (c12 : Int), Value.int .u8 (c13 : Int), Value.int .u8 (c14 : Int), Value.int .u8 (c15 : Int)] rfl
  cases p1 with
  | false => exact six_out1 (.int .u8 (a0 : Int)) (.int .u8 (a1 : Int)) (.int .u8 (a2 : Int)) (.int .u8 (a3 : Int)) (.int .u8 (a4 : Int)) (.int .u8 (a5 : Int)) (.int .u8 (a6 : Int)) (.int .u8 (a7 : Int)) (.int .u8 (a8 : Int)) (.int .u8 (a9 : Int)) (.int .u8 (a10 : Int)) (.int .u8 (a11 : Int)) (.int .u8 (a12 : Int)) (.int .u8 (a13 : Int)) (.int .u8 (a14 : Int)) (.int .u8 (a15 : Int)) (.int .u8 (c0 : Int)) (.int .u8 (c1 : Int)) (.int .u8 (c2 : Int)) (.int .u8 (c3 : Int)) (.int .u8 (c4 : Int)) (.int .u8 (c5 : Int)) (.int .u8 (c6 : Int)) (.int .u8 (c7 : Int)) (.int .u8 (c8 : Int)) (.int .u8 (c9 : Int)) (.int .u8 (c10 : Int)) (.int .u8 (c11 : Int)) (.int .u8 (c12 : Int)) (.int .u8 (c13 : Int)) (.int .u8 (c14 : Int)) (.int .u8 (c15 : Int)) _ _ rfl rfl o1 o2 A1 A2 n1 k1 n2 k2 bits port no _ _ _ _ w hs1 hs2 hs3 hs4 h14a h14b h15a h15b h8 h16 hW rfl
  | true =>
    cases p2 with
    | false => exact six_out2 (.int .u8 (a0 : Int)) (.int .u8 (a1 : Int)) (.int .u8 (a2 : Int)) (.int .u8 (a3 : Int)) (.int .u8 (a4 : Int)) (.int .u8 (a5 : Int)) (.int .u8 (a6 : Int)) (.int .u8 (a7 : Int)) (.int .u8 (a8 : Int)) (.int .u8 (a9 : Int)) (.int .u8 (a10 : Int)) (.int .u8 (a11 : Int)) (.int .u8 (a12 : Int)) (.int .u8 (a13 : Int)) (.int .u8 (a14 : Int)) (.int .u8 (a15 : Int)) (.int .u8 (c0 : Int)) (.int .u8 (c1 : Int)) (.int .u8 (c2 : Int)) (.int .u8 (c3 : Int)) (.int .u8 (c4 : Int)) (.int .u8 (c5 : Int)) (.int .u8 (c6 : Int)) (.int .u8 (c7 : Int)) (.int .u8 (c8 : Int)) (.int .u8 (c9 : Int)) (.int .u8 (c10 : Int)) (.int .u8 (c11 : Int)) (.int .u8 (c12 : Int)) (.int .u8 (c13 : Int)) (.int .u8 (c14 : Int)) (.int .u8 (c15 : Int)) _ _ rfl rfl o1 o2 A1 A2 n1 k1 n2 k2 bits port no _ _ _ _ w hs1 hs2 hs3 hs4 h14a h14b h15a h15b h8 h16 hW rfl rfl
    | true =>
      have pa : Plain [a0, a1, a2, a3, a4, a5, a6, a7, a8, a9, a10, a11, a12, a13, a14, a15] := by unfold Plain; simpa using hp1
      have pc : Plain [c0, c1, c2, c3, c4, c5, c6, c7, c8, c9, c10, c11, c12, c13, c14, c15] := by unfold Plain; simpa using hp2
      by_cases q3 : bits < 0
      · exact six_out3 (.int .u8 (a0 : Int)) (.int .u8 (a1 : Int)) (.int .u8 (a2 : Int)) (.int .u8 (a3 : Int)) (.int .u8 (a4 : Int)) (.int .u8 (a5 : Int)) (.int .u8 (a6 : Int)) (.int .u8 (a7 : Int)) (.int .u8 (a8 : Int)) (.int .u8 (a9 : Int)) (.int .u8 (a10 : Int)) (.int .u8 (a11 : Int)) (.int .u8 (a12 : Int)) (.int .u8 (a13 : Int)) (.int .u8 (a14 : Int)) (.int .u8 (a15 : Int)) (.int .u8 (c0 : Int)) (.int .u8 (c1 : Int)) (.int .u8 (c2 : Int)) (.int .u8 (c3 : Int)) (.int .u8 (c4 : Int)) (.int .u8 (c5 : Int)) (.int .u8 (c6 : Int)) (.int .u8 (c7 : Int)) (.int .u8 (c8 : Int)) (.int .u8 (c9 : Int)) (.int .u8 (c10 : Int)) (.int .u8 (c11 : Int)) (.int .u8 (c12 : Int)) (.int .u8 (c13 : Int)) (.int .u8 (c14 : Int)) (.int .u8 (c15 : Int)) _ _ rfl rfl o1 o2 A1 A2 n1 k1 n2 k2 bits port no _ _ _ _ w hs1 hs2 hs3 hs4 h14a h14b h15a h15b h8 h16 hW rfl rfl q3
      · by_cases q4 : 129 < bits
        · exact six_out4 (.int .u8 (a0 : Int)) (.int .u8 (a1 : Int)) (.int .u8 (a2 : Int)) (.int .u8 (a3 : Int)) (.int .u8 (a4 : Int)) (.int .u8 (a5 : Int)) (.int .u8 (a6 : Int)) (.int .u8 (a7 : Int)) (.int .u8 (a8 : Int)) (.int .u8 (a9 : Int)) (.int .u8 (a10 : Int)) (.int .u8 (a11 : Int)) (.int .u8 (a12 : Int)) (.int .u8 (a13 : Int)) (.int .u8 (a14 : Int)) (.int .u8 (a15 : Int)) (.int .u8 (c0 : Int)) (.int .u8 (c1 : Int)) (.int .u8 (c2 : Int)) (.int .u8 (c3 : Int)) (.int .u8 (c4 : Int)) (.int .u8 (c5 : Int)) (.int .u8 (c6 : Int)) (.int .u8 (c7 : Int)) (.int .u8 (c8 : Int)) (.int .u8 (c9 : Int)) (.int .u8 (c10 : Int)) (.int .u8 (c11 : Int)) (.int .u8 (c12 : Int)) (.int .u8 (c13 : Int)) (.int .u8 (c14 : Int)) (.int .u8 (c15 : Int)) _ _ rfl rfl o1 o2 A1 A2 n1 k1 n2 k2 bits port no _ _ _ _ w hs1 hs2 hs3 hs4 h14a h14b h15a h15b h8 h16 hW rfl rfl q3 q4
        · obtain ⟨bS, hS⟩ : ∃ bS, saidL no.data.toList = bS := ⟨_, rfl⟩
          rw [hS] at h8
          cases bS with
          | false => exact six_out5 (.int .u8 (a0 : Int)) (.int .u8 (a1 : Int)) (.int .u8 (a2 : Int)) (.int .u8 (a3 : Int)) (.int .u8 (a4 : Int)) (.int .u8 (a5 : Int)) (.int .u8 (a6 : Int)) (.int .u8 (a7 : Int)) (.int .u8 (a8 : Int)) (.int .u8 (a9 : Int)) (.int .u8 (a10 : Int)) (.int .u8 (a11 : Int)) (.int .u8 (a12 : Int)) (.int .u8 (a13 : Int)) (.int .u8 (a14 : Int)) (.int .u8 (a15 : Int)) (.int .u8 (c0 : Int)) (.int .u8 (c1 : Int)) (.int .u8 (c2 : Int)) (.int .u8 (c3 : Int)) (.int .u8 (c4 : Int)) (.int .u8 (c5 : Int)) (.int .u8 (c6 : Int)) (.int .u8 (c7 : Int)) (.int .u8 (c8 : Int)) (.int .u8 (c9 : Int)) (.int .u8 (c10 : Int)) (.int .u8 (c11 : Int)) (.int .u8 (c12 : Int)) (.int .u8 (c13 : Int)) (.int .u8 (c14 : Int)) (.int .u8 (c15 : Int)) _ _ rfl rfl o1 o2 A1 A2 n1 k1 n2 k2 bits port no _ _ _ _ w hs1 hs2 hs3 hs4 h14a h14b h15a h15b h8 h16 hW rfl rfl q3 q4 rfl
          | true =>
            by_cases q6 : 300 < no.size
            · exact six_out6 (.int .u8 (a0 : Int)) (.int .u8 (a1 : Int)) (.int .u8 (a2 : Int)) (.int .u8 (a3 : Int)) (.int .u8 (a4 : Int)) (.int .u8 (a5 : Int)) (.int .u8 (a6 : Int)) (.int .u8 (a7 : Int)) (.int .u8 (a8 : Int)) (.int .u8 (a9 : Int)) (.int .u8 (a10 : Int)) (.int .u8 (a11 : Int)) (.int .u8 (a12 : Int)) (.int .u8 (a13 : Int)) (.int .u8 (a14 : Int)) (.int .u8 (a15 : Int)) (.int .u8 (c0 : Int)) (.int .u8 (c1 : Int)) (.int .u8 (c2 : Int)) (.int .u8 (c3 : Int)) (.int .u8 (c4 : Int)) (.int .u8 (c5 : Int)) (.int .u8 (c6 : Int)) (.int .u8 (c7 : Int)) (.int .u8 (c8 : Int)) (.int .u8 (c9 : Int)) (.int .u8 (c10 : Int)) (.int .u8 (c11 : Int)) (.int .u8 (c12 : Int)) (.int .u8 (c13 : Int)) (.int .u8 (c14 : Int)) (.int .u8 (c15 : Int)) _ _ rfl rfl o1 o2 A1 A2 n1 k1 n2 k2 bits port no _ _ _ _ w hs1 hs2 hs3 hs4 h14a h14b h15a h15b h8 h16 hW rfl rfl q3 q4 rfl q6
            · obtain ⟨bP, hP⟩ : ∃ bP, portL port = bP := ⟨_, rfl⟩
              rw [hP] at h16
              cases bP with
              | false => exact six_out7 (.int .u8 (a0 : Int)) (.int .u8 (a1 : Int)) (.int .u8 (a2 : Int)) (.int .u8 (a3 : Int)) (.int .u8 (a4 : Int)) (.int .u8 (a5 : Int)) (.int .u8 (a6 : Int)) (.int .u8 (a7 : Int)) (.int .u8 (a8 : Int)) (.int .u8 (a9 : Int)) (.int .u8 (a10 : Int)) (.int .u8 (a11 : Int)) (.int .u8 (a12 : Int)) (.int .u8 (a13 : Int)) (.int .u8 (a14 : Int)) (.int .u8 (a15 : Int)) (.int .u8 (c0 : Int)) (.int .u8 (c1 : Int)) (.int .u8 (c2 : Int)) (.int .u8 (c3 : Int)) (.int .u8 (c4 : Int)) (.int .u8 (c5 : Int)) (.int .u8 (c6 : Int)) (.int .u8 (c7 : Int)) (.int .u8 (c8 : Int)) (.int .u8 (c9 : Int)) (.int .u8 (c10 : Int)) (.int .u8 (c11 : Int)) (.int .u8 (c12 : Int)) (.int .u8 (c13 : Int)) (.int .u8 (c14 : Int)) (.int .u8 (c15 : Int)) _ _ rfl rfl o1 o2 A1 A2 n1 k1 n2 k2 bits port no _ _ _ _ w hs1 hs2 hs3 hs4 h14a h14b h15a h15b h8 h16 hW rfl rfl q3 q4 rfl q6 rfl
              | true =>
                unfold portL at hP
                rw [Bool.and_eq_true, Bool.and_eq_true, decide_eq_true_eq, beq_iff_eq] at hP
                obtain ⟨⟨hp20, -⟩, hpc⟩ := hP
                obtain ⟨n, rfl⟩ := Int.eq_ofNat_of_zero_le (show 0 ≤ bits by omega)
                have hn : n ≤ 129 := by omega
                have hSd := said_of no (by omega) hS
                have hsb : (bA (sixE [a0, a1, a2, a3, a4, a5, a6, a7, a8, a9, a10, a11, a12, a13, a14, a15] n)).size ≤ 100 := by rw [bA_size]; have := sixE_len (a := [a0, a1, a2, a3, a4, a5, a6, a7, a8, a9, a10, a11, a12, a13, a14, a15]) ba hn; omega
                have h18 := fun wx => Q.laws_hasStar.calls k no _ wx (star_f no (by omega) k (by omega))
                have h19 : ∀ wx, Calls Tryz.prog 19 #[.agg #[Value.int .u8 (a0 : Int), Value.int .u8 (a1 : Int), Value.int .u8 (a2 : Int), Value.int .u8 (a3 : Int), Value.int .u8 (a4 : Int), Value.int .u8 (a5 : Int), Value.int .u8 (a6 : Int), Value.int .u8 (a7 : Int), Value.int .u8 (a8 : Int), Value.int .u8 (a9 : Int), Value.int .u8 (a10 : Int), Value.int .u8 (a11 : Int), Value.int .u8 (a12 : Int), Value.int .u8 (a13 : Int), Value.int .u8 (a14 : Int), Value.int .u8 (a15 : Int)], .int .i64 n] wx fun e w' => e = .returned (.string (bA (sixE [a0, a1, a2, a3, a4, a5, a6, a7, a8, a9, a10, a11, a12, a13, a14, a15] n))) ∧ Below wx.heap.size wx w' := fun wx => sixText19 (a0 : Int) (a1 : Int) (a2 : Int) (a3 : Int) (a4 : Int) (a5 : Int) (a6 : Int) (a7 : Int) (a8 : Int) (a9 : Int) (a10 : Int) (a11 : Int) (a12 : Int) (a13 : Int) (a14 : Int) (a15 : Int) n wx (int_byt ba) hn
                have h20 : ∀ wx, Calls Tryz.prog 20 #[.agg #[Value.int .u8 (c0 : Int), Value.int .u8 (c1 : Int), Value.int .u8 (c2 : Int), Value.int .u8 (c3 : Int), Value.int .u8 (c4 : Int), Value.int .u8 (c5 : Int), Value.int .u8 (c6 : Int), Value.int .u8 (c7 : Int), Value.int .u8 (c8 : Int), Value.int .u8 (c9 : Int), Value.int .u8 (c10 : Int), Value.int .u8 (c11 : Int), Value.int .u8 (c12 : Int), Value.int .u8 (c13 : Int), Value.int .u8 (c14 : Int), Value.int .u8 (c15 : Int)], .string port] wx fun e w' => e = .returned (.string (sixA (ints [c0, c1, c2, c3, c4, c5, c6, c7, c8, c9, c10, c11, c12, c13, c14, c15]) port)) ∧ Below wx.heap.size wx w' := fun wx => sixAddr20 (c0 : Int) (c1 : Int) (c2 : Int) (c3 : Int) (c4 : Int) (c5 : Int) (c6 : Int) (c7 : Int) (c8 : Int) (c9 : Int) (c10 : Int) (c11 : Int) (c12 : Int) (c13 : Int) (c14 : Int) (c15 : Int) port wx (int_byt bc) (by omega)
                have h12 := fun wx (hb : Below w.heap.size w wx) => use_12six no port hSd [a0, a1, a2, a3, a4, a5, a6, a7, a8, a9, a10, a11, a12, a13, a14, a15] [c0, c1, c2, c3, c4, c5, c6, c7, c8, c9, c10, c11, c12, c13, c14, c15] n hn la ba lc bc pa pc (by omega) (by omega) (by omega) (by omega) p4 p6 wx (hx wx hb)
                have h17 : ∀ wx, Calls Tryz.prog 17 #[.agg #[Value.int .u8 (a0 : Int), Value.int .u8 (a1 : Int), Value.int .u8 (a2 : Int), Value.int .u8 (a3 : Int), Value.int .u8 (a4 : Int), Value.int .u8 (a5 : Int), Value.int .u8 (a6 : Int), Value.int .u8 (a7 : Int), Value.int .u8 (a8 : Int), Value.int .u8 (a9 : Int), Value.int .u8 (a10 : Int), Value.int .u8 (a11 : Int), Value.int .u8 (a12 : Int), Value.int .u8 (a13 : Int), Value.int .u8 (a14 : Int), Value.int .u8 (a15 : Int)], .agg #[Value.int .u8 (c0 : Int), Value.int .u8 (c1 : Int), Value.int .u8 (c2 : Int), Value.int .u8 (c3 : Int), Value.int .u8 (c4 : Int), Value.int .u8 (c5 : Int), Value.int .u8 (c6 : Int), Value.int .u8 (c7 : Int), Value.int .u8 (c8 : Int), Value.int .u8 (c9 : Int), Value.int .u8 (c10 : Int), Value.int .u8 (c11 : Int), Value.int .u8 (c12 : Int), Value.int .u8 (c13 : Int), Value.int .u8 (c14 : Int), Value.int .u8 (c15 : Int)], .int .i64 (min n 128 : Nat)] wx fun e w' => e = .returned (.bool (eqPre (min n 128) [a0, a1, a2, a3, a4, a5, a6, a7, a8, a9, a10, a11, a12, a13, a14, a15] [c0, c1, c2, c3, c4, c5, c6, c7, c8, c9, c10, c11, c12, c13, c14, c15])) ∧ Below wx.heap.size wx w' := fun wx => by
                  have := begin17 (ints [a0, a1, a2, a3, a4, a5, a6, a7, a8, a9, a10, a11, a12, a13, a14, a15]) (ints [c0, c1, c2, c3, c4, c5, c6, c7, c8, c9, c10, c11, c12, c13, c14, c15]) (min n 128) wx rfl rfl (by omega)
                  rw [sameBits_pre [a0, a1, a2, a3, a4, a5, a6, a7, a8, a9, a10, a11, a12, a13, a14, a15] [c0, c1, c2, c3, c4, c5, c6, c7, c8, c9, c10, c11, c12, c13, c14, c15] (min n 128) rfl (fun x hx => by have := ba x hx; omega) (fun x hx => by have := bc x hx; omega) (by rw [la]; omega)] at this
                  exact this
                have hr : sixSays no.data.toList [a0, a1, a2, a3, a4, a5, a6, a7, a8, a9, a10, a11, a12, a13, a14, a15] [c0, c1, c2, c3, c4, c5, c6, c7, c8, c9, c10, c11, c12, c13, c14, c15] n = (!eqPre (min n 128) [a0, a1, a2, a3, a4, a5, a6, a7, a8, a9, a10, a11, a12, a13, a14, a15] [c0, c1, c2, c3, c4, c5, c6, c7, c8, c9, c10, c11, c12, c13, c14, c15] && !starL no.data.toList) := by
                  unfold sixSays
                  rw [Bool.not_or, Bool.and_comm]
                by_cases h8' : n ≤ 128
                · rw [Nat.min_eq_left h8'] at h17 hr
                  exact six_go_le (.int .u8 (a0 : Int)) (.int .u8 (a1 : Int)) (.int .u8 (a2 : Int)) (.int .u8 (a3 : Int)) (.int .u8 (a4 : Int)) (.int .u8 (a5 : Int)) (.int .u8 (a6 : Int)) (.int .u8 (a7 : Int)) (.int .u8 (a8 : Int)) (.int .u8 (a9 : Int)) (.int .u8 (a10 : Int)) (.int .u8 (a11 : Int)) (.int .u8 (a12 : Int)) (.int .u8 (a13 : Int)) (.int .u8 (a14 : Int)) (.int .u8 (a15 : Int)) (.int .u8 (c0 : Int)) (.int .u8 (c1 : Int)) (.int .u8 (c2 : Int)) (.int .u8 (c3 : Int)) (.int .u8 (c4 : Int)) (.int .u8 (c5 : Int)) (.int .u8 (c6 : Int)) (.int .u8 (c7 : Int)) (.int .u8 (c8 : Int)) (.int .u8 (c9 : Int)) (.int .u8 (c10 : Int)) (.int .u8 (c11 : Int)) (.int .u8 (c12 : Int)) (.int .u8 (c13 : Int)) (.int .u8 (c14 : Int)) (.int .u8 (c15 : Int)) _ _ rfl rfl o1 o2 A1 A2 n1 k1 n2 k2 _ port no _ _ _ _ w hs1 hs2 hs3 hs4 h14a h14b h15a h15b h8 h16 hW _ _ rfl rfl _ _ _ n h8' rfl rfl rfl rfl (by omega) rfl hp20 _ _ _ hsb rfl h17 h18 h19 h20 h12 hr
                · obtain rfl : n = 129 := by omega
                  exact six_go_129 (.int .u8 (a0 : Int)) (.int .u8 (a1 : Int)) (.int .u8 (a2 : Int)) (.int .u8 (a3 : Int)) (.int .u8 (a4 : Int)) (.int .u8 (a5 : Int)) (.int .u8 (a6 : Int)) (.int .u8 (a7 : Int)) (.int .u8 (a8 : Int)) (.int .u8 (a9 : Int)) (.int .u8 (a10 : Int)) (.int .u8 (a11 : Int)) (.int .u8 (a12 : Int)) (.int .u8 (a13 : Int)) (.int .u8 (a14 : Int)) (.int .u8 (a15 : Int)) (.int .u8 (c0 : Int)) (.int .u8 (c1 : Int)) (.int .u8 (c2 : Int)) (.int .u8 (c3 : Int)) (.int .u8 (c4 : Int)) (.int .u8 (c5 : Int)) (.int .u8 (c6 : Int)) (.int .u8 (c7 : Int)) (.int .u8 (c8 : Int)) (.int .u8 (c9 : Int)) (.int .u8 (c10 : Int)) (.int .u8 (c11 : Int)) (.int .u8 (c12 : Int)) (.int .u8 (c13 : Int)) (.int .u8 (c14 : Int)) (.int .u8 (c15 : Int)) _ _ rfl rfl o1 o2 A1 A2 n1 k1 n2 k2 _ port no _ _ _ _ w hs1 hs2 hs3 hs4 h14a h14b h15a h15b h8 h16 hW _ _ rfl rfl _ _ _ rfl rfl rfl rfl (by omega) rfl hp20 _ _ _ hsb rfl h17 h18 h19 h20 h12 hr
/-- The sixteen numbers. -/
def sixN (l : List Nat) : List Nat := l.take 16 ++ zer.drop (l.take 16).length
theorem sixN_ints (l : List Nat) : six (ints l) = ints (sixN l) := by
  unfold six sixN
  rw [zer_ints]
  simp [ints, List.map_take, List.map_drop]
theorem sixN_len (l : List Nat) : (sixN l).length = 16 := by
  simp [sixN, zer]
  omega
theorem sixN_le {l : List Nat} (h : ∀ x ∈ l, x ≤ 255) : ∀ x ∈ sixN l, x ≤ 255 := by
  intro x hx
  unfold sixN at hx
  rcases List.mem_append.1 hx with hx | hx
  · exact h x (List.mem_of_mem_take hx)
  · have := List.mem_of_mem_drop hx
    unfold zer at this
    have := List.eq_of_mem_replicate this
    omega
theorem bytes_below {w wx : World} {A : Option Addr} {l : List Int} (h : BytesAt w A l) (hb : Below w.heap.size w wx) : BytesAt wx A l := by
  intro h0
  obtain ⟨b, o, e, hc⟩ := h h0
  exact ⟨b, o, e, fun j hj => pw_cell_below hb (hc j hj)⟩
theorem list16n (l : List Nat) (h : l.length = 16) : ∃ a0 a1 a2 a3 a4 a5 a6 a7 a8 a9 a10 a11 a12 a13 a14 a15, l = [a0, a1, a2, a3, a4, a5, a6, a7, a8, a9, a10, a11, a12, a13, a14, a15] := by
  match l, h with
  | [a0, a1, a2, a3, a4, a5, a6, a7, a8, a9, a10, a11, a12, a13, a14, a15], _ => exact ⟨_, _, _, _, _, _, _, _, _, _, _, _, _, _, _, _, rfl⟩
/-- FnUseSix says true. -/
theorem six_true (A1 A2 : Option Addr) (l1 l2 : List Nat) (k1 k2 : Nat) (b1 : ∀ x ∈ l1, x ≤ 255) (b2 : ∀ x ∈ l2, x ≤ 255) (bits : Int) (port no : ByteArray) (p4 p6 : Addr) (w : World) (hE : EnvB w w.heap.size p4 p6) (h1 : BytesAt w A1 (ints l1)) (h2 : BytesAt w A2 (ints l2)) :
    Calls Tryz.prog 5 #[.slice A1 l1.length k1, .int .i64 bits, .slice A2 l2.length k2, .string port, .string no] w (Says true w) := by
  by_cases hbig : 2147483647 < l1.length ∨ 2147483647 < l2.length ∨ 2147483647 < port.size ∨ 2147483647 < no.size
  · exact six_big A1 A2 _ k1 _ k2 bits port no w hbig
  · have e1 : (ints l1).length = l1.length := by simp [ints]
    have e2 : (ints l2).length = l2.length := by simp [ints]
    have s1 := fun wx (hb : Below w.heap.size w wx) => sixteen A1 k1 (ints l1) wx (bytes_below h1 hb) (by omega)
    have s2 := fun wx (hb : Below w.heap.size w wx) => sixteen A2 k2 (ints l2) wx (bytes_below h2 hb) (by omega)
    rw [e1, sixN_ints] at s1
    rw [e2, sixN_ints] at s2
    have t1 := sixN_le b1
    have t2 := sixN_le b2
    obtain ⟨a0, a1, a2, a3, a4, a5, a6, a7, a8, a9, a10, a11, a12, a13, a14, a15, ea⟩ := list16n (sixN l1) (sixN_len l1)
    obtain ⟨c0, c1, c2, c3, c4, c5, c6, c7, c8, c9, c10, c11, c12, c13, c14, c15, ec⟩ := list16n (sixN l2) (sixN_len l2)
    rw [ea] at s1 t1
    rw [ec] at s2 t2
    exact six_core a0 a1 a2 a3 a4 a5 a6 a7 a8 a9 a10 a11 a12 a13 a14 a15 c0 c1 c2 c3 c4 c5 c6 c7 c8 c9 c10 c11 c12 c13 c14 c15 t1 t2 A1 A2 _ k1 _ k2 bits port no p4 p6 w hE (by omega) (by omega) (by omega) (by omega) s1 s2
end Go.Proofs.YtpemdpfageikfaaGreatDoor.R
/- FnUseSix: an address of 128 bits goes through the proxy just where no entry is for it: an address of 128 bits for itself, and one with a slash and a number up to 128 for those that begin with the same bits: the row and its tied card. Conditions: none beyond the row's own. -/
namespace Go.Proofs.YtpemdpfageikfaaGreatDoor.R
open Go.ChangeShapes Go.WideShapes Go.ChangeAt Go.RowKit
open Go.ChangeMaps (open_string shut_string)

set_option maxRecDepth 100000
theorem envB_of' {W : World} {p4 p6 : Addr} (h : Env W p4 p6) : EnvB W W.heap.size p4 p6 := by
  refine ⟨h, Nat.le_refl _, h.size, ?_, ?_⟩
  · obtain ⟨c, t, e⟩ := h.b4; exact blk_lt' e
  · obtain ⟨c, t, e⟩ := h.b6; exact blk_lt' e
theorem int_nats : ∀ (zs : List Int), (∀ z ∈ zs, (Lit.int .u8 z).wf = true) → ∃ l : List Nat, zs = ints l ∧ ∀ x ∈ l, x ≤ 255
  | [], _ => ⟨[], rfl, by simp⟩
  | z :: zs, h => by
    obtain ⟨l, e, hl⟩ := int_nats zs fun y hy => h y (by simp [hy])
    have hz := h z (by simp)
    have hr : 0 ≤ z ∧ z ≤ 255 := by simpa [Lit.wf, IntKind.min, IntKind.max, IntKind.signed, IntKind.bits] using hz
    obtain ⟨n, rfl⟩ := Int.eq_ofNat_of_zero_le hr.1
    refine ⟨n :: l, by rw [e]; rfl, fun x hx => ?_⟩
    rcases List.mem_cons.1 hx with rfl | hx
    · omega
    · exact hl x hx
/-- A slice of bytes that came in. -/
theorem slice_open {H : Type} {enc : TypeId × Value → H} {W : World} {b0 : Nat} {v : Value} {d : DataW H} {p : List MemPlace} (hval : Value.okWide Tryz.prog W .any b0 27 v) (h : DataW.Trod enc Tryz.prog W 0 (fun _ => true) true 27 v d p) :
    ∃ (A : Option Addr) (l : List Nat) (k : Nat), v = .slice A l.length k ∧ (∀ x ∈ l, x ≤ 255) ∧ BytesAt W A (ints l) := by
  obtain ⟨A, n, k, rfl⟩ := okWide_slice Tryz.underlying27 hval
  obtain ⟨fuel, hf⟩ := h
  rcases open_ints Tryz.underlying27 Tryz.underlying5 cells5 hf with ⟨h1, _⟩ | ⟨a, len, cap, zs, h1, _, hlc, _, hzl, _, hc, hw⟩
  · have h2 : ([Value.slice A n k] : List Value) = [.slice none 0 0] := h1
    simp only [List.cons.injEq, Value.slice.injEq, and_true] at h2
    obtain ⟨rfl, rfl, rfl⟩ := h2
    exact ⟨none, [], 0, rfl, by simp, fun h0 => by simp [ints] at h0⟩
  · have h2 : ([Value.slice A n k] : List Value) = [.slice (some a) len cap] := h1
    simp only [List.cons.injEq, Value.slice.injEq, and_true] at h2
    obtain ⟨rfl, rfl, rfl⟩ := h2
    have hzl' : zs.length = k := by simpa using hzl
    obtain ⟨l, el, hl⟩ := int_nats (zs.take n) fun z hz => hw z (List.mem_of_mem_take hz)
    have hln : l.length = n := by
      have := congrArg List.length el
      rw [List.length_take] at this
      simp [ints] at this
      omega
    refine ⟨some a, l, k, by rw [hln], hl, fun h0 => ?_⟩
    have hl2 : (ints l).length = n := by simp [ints, hln]
    have c0 := hc 0 (by omega)
    have hsp := World.cell?_spot c0
    obtain ⟨b, o, sp⟩ := a
    obtain rfl : sp = none := by
      have : ((⟨b, o, sp⟩ : Addr).add 0).spot = sp := by
        unfold Addr.add
        split <;> simp_all
      rw [this] at hsp
      exact hsp
    refine ⟨b, o, rfl, fun j hj => ?_⟩
    have hcj := hc j (by omega)
    rw [add_place] at hcj
    rw [hcj, ← el]
    congr 2
    rw [List.getD_eq_getElem?_getD, List.getD_eq_getElem?_getD, List.getElem?_take, if_pos (by omega)]
theorem trod_lt' {H : Type} {enc : TypeId × Value → H} {W : World} {t : TypeId} {v : Value} {d : DataW H} {p : List MemPlace} (h : DataW.Trod enc Tryz.prog W 0 (fun _ => true) true t v d p) : ∀ x ∈ p, x.block < W.heap.size := by
  obtain ⟨fuel, hf⟩ := h
  exact DataW.trod_lt fuel t v.cells.toList (d, p) hf
theorem rd27 : Tryz.prog.readableRec 27 = true := by kernel_rfl
theorem lt27 : 27 < Tryz.prog.types.size := of_decide_eq_true (by kernel_rfl)
theorem six_lifted (os : Os) (started : os.Started) (H : Type) (enc : TypeId × Value → H) :
    ReturnsInHanded {} Tryz.checked os 5 .any (fun w args => (Rows.fnUseSixSpec.pre enc Tryz.prog Tryz.f5 [] false w args ∧ laidMetH Tryz.prog Rows.fnUseSixRow.laid w) ∧ sizedMet enc Tryz.prog Tryz.f5 (OpenSpec.ofChange Rows.fnUseSixSpec) false w args)
      (Rows.fnUseSixSpec.post enc Tryz.prog Tryz.f5 false true false false) := by
  refine returnsInHanded_of_change_and (C := Tryz.checked) (X := fun w _ => laidMetH Tryz.prog Rows.fnUseSixRow.laid w) (fun _ _ _ hh h => h.of_heap hh) own started (by kernel_rfl) Tryz.func5
    (ChangeSpec.witness_shaped (enc := enc) (C := Tryz.checked) (os := os) (X := fun w _ => laidMetH Tryz.prog Rows.fnUseSixRow.laid w) false (World.laidAll Tryz.prog os Rows.fnUseSixRow.laid) #[.slice none 0 0, .int .i64 0, .slice none 0 0, .string ⟨#[]⟩, .string ⟨#[]⟩] 8 (World.laidAll_os _ _ _)
      (World.shaped_of_ZipB (by kernel_rfl) (by kernel_rfl)) (by kernel_rfl) (by kernel_rfl) (by kernel_rfl)
      (by rw [MakeChecks.laidMetH_plain _ _ _ (by kernel_rfl)]; exact laidMet_laidAll _ (by kernel_rfl) (by kernel_rfl))) ?_
  intro W base args ds gs before hval0 hW _ _ hX _
  have hval : ∀ (j : Nat) t v, Tryz.f5.params[j]? = some t → args[j]? = some v → Value.okWide Tryz.prog W .any base t v := hval0
  have hW' := hW
  obtain ⟨p, q, hA0, hV, rfl, _, _⟩ := hW
  have hA : DataW.TrodAll enc Tryz.prog W 0 (fun _ => true) true Tryz.f5.params.toList args.toList ds p := hA0
  rw [Tryz.params5] at hA hval
  obtain ⟨v0, vs0, d0, ds0, p0, q0, hargs, rfl, rfl, h0, r0⟩ := trodAll_cons hA
  obtain ⟨v1, vs1, d1, ds1, p1, q1, rfl, rfl, rfl, h1, r1⟩ := trodAll_cons r0
  obtain ⟨v2, vs2, d2, ds2, p2, q2, rfl, rfl, rfl, h2, r2⟩ := trodAll_cons r1
  obtain ⟨v3, vs3, d3, ds3, p3, q3, rfl, rfl, rfl, h3, r3⟩ := trodAll_cons r2
  obtain ⟨v4, vs4, d4, ds4, p4', q4, rfl, rfl, rfl, h4, r4⟩ := trodAll_cons r3
  obtain ⟨rfl, rfl, rfl⟩ := trodAll_nil r4
  obtain rfl : args = #[v0, v1, v2, v3, v4] := by cases args; simp_all
  obtain ⟨A1, l1, k1, rfl, b1, y1⟩ := slice_open (hval 0 27 v0 rfl rfl) h0
  obtain ⟨bits, rfl, rfl, rfl, wb⟩ := open_int Tryz.underlying3 (hval 1 3 v1 rfl rfl) h1
  obtain ⟨A2, l2, k2, rfl, b2, y2⟩ := slice_open (hval 2 27 v2 rfl rfl) h2
  obtain ⟨port, rfl, rfl, rfl, hs3⟩ := open_string Tryz.underlying9 (hval 3 9 v3 rfl rfl) h3
  obtain ⟨no, rfl, rfl, rfl, hs4⟩ := open_string Tryz.underlying9 (hval 4 9 v4 rfl rfl) h4
  obtain ⟨a4, a6, hE⟩ := env_of _ W hX (by kernel_rfl) (by kernel_rfl) (by kernel_rfl) (by kernel_rfl) (by kernel_rfl)
  refine (six_true A1 A2 l1 l2 k1 k2 b1 b2 bits port no a4 a6 W (envB_of' hE) y1 y2).mono fun e W' ⟨he, hb⟩ => ?_
  subst he
  obtain ⟨g1, rfl⟩ : ∃ g1, gs = [g1] := by
    match gs, hV with
    | [], h => exact h.elim
    | [g1], _ => exact ⟨g1, rfl⟩
    | _ :: _ :: _, h =>
      obtain ⟨_, _, _, _, _, _, _, _, _, _, h2, _⟩ := h
      exact h2.elim
  have t0 := Below.trod laidOut rd27 lt27 h0 hb (trod_lt' h0)
  have t2 := Below.trod laidOut rd27 lt27 h2 hb (trod_lt' h2)
  exact ⟨_, rfl, _, _, _, [], _, q, hW', trodAll_mk1 (shut_bool Tryz.underlying4 _), trodAll_cons_mk t0 (trodAll_cons_mk (shut_int Tryz.underlying3 wb) (trodAll_cons_mk t2 (trodAll_cons_mk (shut_string Tryz.underlying9 hs3) (trodAll_cons_mk (shut_string Tryz.underlying9 hs4) trodAll_mk0)))), hb.trodVars laidOut (by kernel_rfl) hV, hb.frame _, fun h => by cases h⟩
theorem six_holds : Rows.FnUseSixSaid :=
  OpenClaim.holds_of_wide 5 Tryz.f5 rfl rfl rfl rfl rfl rfl rfl ⟨rfl, rfl, rfl, rfl, rfl⟩ rfl rfl rfl rfl rfl (by kernel_rfl) Tryz.func5 (by kernel_rfl)
    (of_decide_eq_true (by kernel_rfl)) (by unfold Func.isWrapper; first | (rw [if_pos (by decide +kernel)]; kernel_rfl) | (rw [if_neg (by decide +kernel)]; exact ⟨rfl, rfl⟩))
    (fun os started H enc _ => six_lifted os started H enc)
end Go.Proofs.YtpemdpfageikfaaGreatDoor.R
namespace Go.Proofs.YtpemdpfageikfaaGreatDoor
theorem six_card : Rows.FnUseSixCardSaid :=
  Claim7.holds_tied_plain_at .later [] [.data, .listed, .data, .called, .called, .data, .zero, .pinned, .pinned] true (true, "9f36d45dec91771d15b1f38b5a111e20a64234aea24ffbb542fea7904a6c9561") false R.six_holds (fun _ h => by cases h) (by kernel_rfl) (fun _ h => by cases h) fnUseSix_row_tie rfl ⟨rfl, rfl⟩ (by kernel_rfl) rfl
    (fun f fn hf hfn => by
      obtain rfl : f = 5 := Option.some.inj ((show Tryz.prog.funcNamed "loop.example/pub-g01499/laws.FnUseSix" = some 5 by kernel_rfl).symm.trans hf) |>.symm
      obtain rfl : fn = Tryz.f5 := (Option.some.inj (Tryz.func5.symm.trans hfn)).symm
      exact ⟨by kernel_rfl, fun j t ht => by
        rw [Tryz.params5] at ht
        have hm : t ∈ [27, 3, 27, 9, 9] := by simpa using Array.mem_of_getElem? ht
        have hall : ([27, 3, 27, 9, 9].all fun u => !Tryz.prog.wantsStandIn u) = true := by kernel_rfl
        exact (show Tryz.prog.wantsStandIn t = false by simpa using List.all_eq_true.1 hall t hm)⟩)
    (by kernel_rfl)
end Go.Proofs.YtpemdpfageikfaaGreatDoor
