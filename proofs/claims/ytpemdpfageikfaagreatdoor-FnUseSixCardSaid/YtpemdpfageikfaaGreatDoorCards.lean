/-
  DERIVED. GIVEN WITH THE SEED: THE CARDS: each row of YtpemdpfageikfaaGreatDoorRows.lean that lists a variable, with what it lists TIED to the program's text (the seventh form; the later family's looks); each row that meets fmt, with fmt's text TOLD by the authors' own Lean function (tested against real Go, not proved from fmt's source: count such statements apart). THE CARD IS WHAT COUNTS. Prove the row's statement (the work); the ties are given (YtpemdpfageikfaaGreatDoorTie.lean); close each card by the builder's one call (the guide's Derived/Test/ToyasCard.lean, 'card_holds'). Laid BY PROGRAM, IN A SANDBOX (cutbox-door.mjs). By AI agents, Wed Nov 11 2026. No macro, syntax, notation, axiom, sorry.
-/
import Derived.Test.YtpemdpfageikfaaGreatDoorRows
import GoSem.ClaimSeven
namespace Go.Proofs.YtpemdpfageikfaaGreatDoor
namespace Rows

/-- THE TIED CARD OF 'laws.FnUseAny'. -/
def fnUseAnyCard : Claim7 := { stood := { row := fnUseAnyRow, standIns := [], harness := (true, "9f36d45dec91771d15b1f38b5a111e20a64234aea24ffbb542fea7904a6c9561"), looks := false }, kinds := [], alts := [], laidByText := true, laidKinds := [.data, .listed, .data, .called, .called, .data, .zero, .pinned, .pinned], laidTests := true, laidLooks := .later }
def FnUseAnyCardSaid : Prop := Claim7.holds Tryz.pinned (.plain (OpenSpec.ofChange fnUseAnySpec)) fnUseAnyCard

/-- THE TIED CARD OF 'laws.FnUseJoined'. -/
def fnUseJoinedCard : Claim7 := { stood := { row := fnUseJoinedRow, standIns := [], harness := (true, "9f36d45dec91771d15b1f38b5a111e20a64234aea24ffbb542fea7904a6c9561"), looks := false }, kinds := [], alts := [], laidByText := true, laidKinds := [.data, .listed, .data, .called, .called, .data, .zero, .pinned, .pinned], laidTests := true, laidLooks := .later }
def FnUseJoinedCardSaid : Prop := Claim7.holds Tryz.pinned (.plain (OpenSpec.ofChange fnUseJoinedSpec)) fnUseJoinedCard

/-- THE TIED CARD OF 'laws.FnUseSix'. -/
def fnUseSixCard : Claim7 := { stood := { row := fnUseSixRow, standIns := [], harness := (true, "9f36d45dec91771d15b1f38b5a111e20a64234aea24ffbb542fea7904a6c9561"), looks := false }, kinds := [], alts := [], laidByText := true, laidKinds := [.data, .listed, .data, .called, .called, .data, .zero, .pinned, .pinned], laidTests := true, laidLooks := .later }
def FnUseSixCardSaid : Prop := Claim7.holds Tryz.pinned (.plain (OpenSpec.ofChange fnUseSixSpec)) fnUseSixCard

/-- THE TIED CARD OF 'laws.FnUseTurned'. -/
def fnUseTurnedCard : Claim7 := { stood := { row := fnUseTurnedRow, standIns := [], harness := (true, "9f36d45dec91771d15b1f38b5a111e20a64234aea24ffbb542fea7904a6c9561"), looks := false }, kinds := [], alts := [], laidByText := true, laidKinds := [.data, .listed, .data, .called, .called, .data, .zero, .pinned, .pinned], laidTests := true, laidLooks := .later }
def FnUseTurnedCardSaid : Prop := Claim7.holds Tryz.pinned (.plain (OpenSpec.ofChange fnUseTurnedSpec)) fnUseTurnedCard

/-- THE TIED CARD OF 'laws.FnProxyAny'. -/
def fnProxyAnyCard : Claim7 := { stood := { row := fnProxyAnyRow, standIns := [], harness := (true, "9f36d45dec91771d15b1f38b5a111e20a64234aea24ffbb542fea7904a6c9561"), looks := false }, kinds := [], alts := [], laidByText := true, laidKinds := [.data, .listed, .data, .called, .called, .data, .mapped, .zero, .pinned, .pinned], laidTests := true, laidLooks := .later }
def FnProxyAnyCardSaid : Prop := Claim7.holds Tryz.pinned (.plain (OpenSpec.ofChange fnProxyAnySpec)) fnProxyAnyCard

/-- THE SECOND FORM's CARD OF 'laws.FnUseAny'. -/
def fnUseAnyUptoCard : Claim7 := { stood := { row := fnUseAnyUptoRow, standIns := [], harness := (true, "9f36d45dec91771d15b1f38b5a111e20a64234aea24ffbb542fea7904a6c9561"), looks := false }, kinds := [], alts := [], laidByText := true, laidKinds := [.data, .listed, .data, .called, .called, .data, .zero, .pinned, .pinned], laidTests := true, laidLooks := .later }
def FnUseAnyUptoCardSaid : Prop := Claim7.holds Tryz.pinned (.plain (OpenSpec.upto fnUseAnySpec)) fnUseAnyUptoCard

/-- THE SECOND FORM's CARD OF 'laws.FnUseJoined'. -/
def fnUseJoinedUptoCard : Claim7 := { stood := { row := fnUseJoinedUptoRow, standIns := [], harness := (true, "9f36d45dec91771d15b1f38b5a111e20a64234aea24ffbb542fea7904a6c9561"), looks := false }, kinds := [], alts := [], laidByText := true, laidKinds := [.data, .listed, .data, .called, .called, .data, .zero, .pinned, .pinned], laidTests := true, laidLooks := .later }
def FnUseJoinedUptoCardSaid : Prop := Claim7.holds Tryz.pinned (.plain (OpenSpec.upto fnUseJoinedSpec)) fnUseJoinedUptoCard

/-- THE SECOND FORM's CARD OF 'laws.FnUseSix'. -/
def fnUseSixUptoCard : Claim7 := { stood := { row := fnUseSixUptoRow, standIns := [], harness := (true, "9f36d45dec91771d15b1f38b5a111e20a64234aea24ffbb542fea7904a6c9561"), looks := false }, kinds := [], alts := [], laidByText := true, laidKinds := [.data, .listed, .data, .called, .called, .data, .zero, .pinned, .pinned], laidTests := true, laidLooks := .later }
def FnUseSixUptoCardSaid : Prop := Claim7.holds Tryz.pinned (.plain (OpenSpec.upto fnUseSixSpec)) fnUseSixUptoCard

/-- THE SECOND FORM's CARD OF 'laws.FnUseTurned'. -/
def fnUseTurnedUptoCard : Claim7 := { stood := { row := fnUseTurnedUptoRow, standIns := [], harness := (true, "9f36d45dec91771d15b1f38b5a111e20a64234aea24ffbb542fea7904a6c9561"), looks := false }, kinds := [], alts := [], laidByText := true, laidKinds := [.data, .listed, .data, .called, .called, .data, .zero, .pinned, .pinned], laidTests := true, laidLooks := .later }
def FnUseTurnedUptoCardSaid : Prop := Claim7.holds Tryz.pinned (.plain (OpenSpec.upto fnUseTurnedSpec)) fnUseTurnedUptoCard

/-- THE SECOND FORM's CARD OF 'laws.FnProxyAny'. -/
def fnProxyAnyUptoCard : Claim7 := { stood := { row := fnProxyAnyUptoRow, standIns := [], harness := (true, "9f36d45dec91771d15b1f38b5a111e20a64234aea24ffbb542fea7904a6c9561"), looks := false }, kinds := [], alts := [], laidByText := true, laidKinds := [.data, .listed, .data, .called, .called, .data, .mapped, .zero, .pinned, .pinned], laidTests := true, laidLooks := .later }
def FnProxyAnyUptoCardSaid : Prop := Claim7.holds Tryz.pinned (.plain (OpenSpec.upto fnProxyAnySpec)) fnProxyAnyUptoCard
end Rows
end Go.Proofs.YtpemdpfageikfaaGreatDoor
