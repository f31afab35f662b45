/-
  DERIVED. GIVEN WITH THE SEED: THE CARDS: each row of YtnlebcllloceoaaDoorRows.lean that lists a variable, with what it lists TIED to the program's text (the seventh form; the later family's looks); each row that meets fmt, with fmt's text TOLD by the authors' own Lean function (tested against real Go, not proved from fmt's source: count such statements apart). THE CARD IS WHAT COUNTS. Prove the row's statement (the work); the ties are given (YtnlebcllloceoaaDoorTie.lean); close each card by the builder's one call (the guide's Derived/Test/ToyasCard.lean, 'card_holds'). Laid BY PROGRAM, IN A SANDBOX (cutbox-door.mjs). By AI agents, Wed Nov 11 2026. No macro, syntax, notation, axiom, sorry.
-/
import Derived.Test.YtnlebcllloceoaaDoorRows
import GoSem.ClaimSeven
namespace Go.Proofs.YtnlebcllloceoaaDoor
namespace Rows

/-- THE TIED CARD OF 'laws.FnPath'. -/
def fnPathCard : Claim7 := { stood := { row := fnPathRow, standIns := [], harness := (true, "6e4f11081e7fbe5f81a2e9d837f1eb6eadf7f516280767fbdf501c9e69d45b5e"), looks := true }, kinds := [], alts := [], laidByText := true, laidKinds := [.data, .data, .data, .sentinel, .sentinel], laidTests := true, laidLooks := .later }
def FnPathCardSaid : Prop := Claim7.holds Tryd.pinned (.plain (OpenSpec.ofChange fnPathSpec)) fnPathCard

/-- THE TIED CARD OF 'laws.FnBack'. -/
def fnBackCard : Claim7 := { stood := { row := fnBackRow, standIns := [], harness := (true, "6e4f11081e7fbe5f81a2e9d837f1eb6eadf7f516280767fbdf501c9e69d45b5e"), looks := true }, kinds := [], alts := [], laidByText := true, laidKinds := [.data, .data, .data, .sentinel, .sentinel], laidTests := true, laidLooks := .later }
def FnBackCardSaid : Prop := Claim7.holds Tryd.pinned (.plain (OpenSpec.ofChange fnBackSpec)) fnBackCard

/-- THE TIED CARD OF 'laws.FnPlain'. -/
def fnPlainCard : Claim7 := { stood := { row := fnPlainRow, standIns := [], harness := (true, "6e4f11081e7fbe5f81a2e9d837f1eb6eadf7f516280767fbdf501c9e69d45b5e"), looks := true }, kinds := [], alts := [], laidByText := true, laidKinds := [.data, .data, .data, .sentinel, .sentinel], laidTests := true, laidLooks := .later }
def FnPlainCardSaid : Prop := Claim7.holds Tryd.pinned (.plain (OpenSpec.ofChange fnPlainSpec)) fnPlainCard

/-- THE SECOND FORM's CARD OF 'laws.FnPath'. -/
def fnPathUptoCard : Claim7 := { stood := { row := fnPathUptoRow, standIns := [], harness := (true, "6e4f11081e7fbe5f81a2e9d837f1eb6eadf7f516280767fbdf501c9e69d45b5e"), looks := true }, kinds := [], alts := [], laidByText := true, laidKinds := [.data, .data, .data, .sentinel, .sentinel], laidTests := true, laidLooks := .later }
def FnPathUptoCardSaid : Prop := Claim7.holds Tryd.pinned (.plain (OpenSpec.upto fnPathSpec)) fnPathUptoCard

/-- THE SECOND FORM's CARD OF 'laws.FnBack'. -/
def fnBackUptoCard : Claim7 := { stood := { row := fnBackUptoRow, standIns := [], harness := (true, "6e4f11081e7fbe5f81a2e9d837f1eb6eadf7f516280767fbdf501c9e69d45b5e"), looks := true }, kinds := [], alts := [], laidByText := true, laidKinds := [.data, .data, .data, .sentinel, .sentinel], laidTests := true, laidLooks := .later }
def FnBackUptoCardSaid : Prop := Claim7.holds Tryd.pinned (.plain (OpenSpec.upto fnBackSpec)) fnBackUptoCard

/-- THE SECOND FORM's CARD OF 'laws.FnPlain'. -/
def fnPlainUptoCard : Claim7 := { stood := { row := fnPlainUptoRow, standIns := [], harness := (true, "6e4f11081e7fbe5f81a2e9d837f1eb6eadf7f516280767fbdf501c9e69d45b5e"), looks := true }, kinds := [], alts := [], laidByText := true, laidKinds := [.data, .data, .data, .sentinel, .sentinel], laidTests := true, laidLooks := .later }
def FnPlainUptoCardSaid : Prop := Claim7.holds Tryd.pinned (.plain (OpenSpec.upto fnPlainSpec)) fnPlainUptoCard
end Rows
end Go.Proofs.YtnlebcllloceoaaDoor
