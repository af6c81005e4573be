/-
  DERIVED. GIVEN WITH THE SEED: THE CARDS: each row of YtfaopfaghnefdaaDoorRows.lean that lists a variable, with what it lists TIED to the program's text (the seventh form; the later family's looks); each row that meets fmt, with fmt's text TOLD by the authors' own Lean function (tested against real Go, not proved from fmt's source: count such statements apart). THE CARD IS WHAT COUNTS. Prove the row's statement (the work); the ties are given (YtfaopfaghnefdaaDoorTie.lean); close each card by the builder's one call (the guide's Derived/Test/ToyasCard.lean, 'card_holds'). Laid BY PROGRAM, IN A SANDBOX (cutbox-door.mjs). By AI agents, Wed Nov 11 2026. No macro, syntax, notation, axiom, sorry.
-/
import Derived.Test.YtfaopfaghnefdaaDoorRows
import GoSem.ClaimSeven
namespace Go.Proofs.YtfaopfaghnefdaaDoor
namespace Rows

/-- THE TIED CARD OF 'laws.FnPrefix'. -/
def fnPrefixCard : Claim7 := { stood := { row := fnPrefixRow, standIns := [], harness := (true, "19611b1df6a2529e8663e73e7ce4a509b7c7675c0b44ffde6c5dcc8dde0111af"), looks := false }, kinds := [], alts := [], laidByText := true, laidKinds := [.data, .data], laidTests := true, laidLooks := .later }
def FnPrefixCardSaid : Prop := Claim7.holds Tryd.pinned (.plain (OpenSpec.ofChange fnPrefixSpec)) fnPrefixCard

/-- THE TIED CARD OF 'laws.FnSizes'. -/
def fnSizesCard : Claim7 := { stood := { row := fnSizesRow, standIns := [], harness := (true, "19611b1df6a2529e8663e73e7ce4a509b7c7675c0b44ffde6c5dcc8dde0111af"), looks := false }, kinds := [], alts := [], laidByText := true, laidKinds := [.data, .data], laidTests := true, laidLooks := .later }
def FnSizesCardSaid : Prop := Claim7.holds Tryd.pinned (.plain (OpenSpec.ofChange fnSizesSpec)) fnSizesCard

/-- THE SECOND FORM's CARD OF 'laws.FnPrefix'. -/
def fnPrefixUptoCard : Claim7 := { stood := { row := fnPrefixUptoRow, standIns := [], harness := (true, "19611b1df6a2529e8663e73e7ce4a509b7c7675c0b44ffde6c5dcc8dde0111af"), looks := false }, kinds := [], alts := [], laidByText := true, laidKinds := [.data, .data], laidTests := true, laidLooks := .later }
def FnPrefixUptoCardSaid : Prop := Claim7.holds Tryd.pinned (.plain (OpenSpec.upto fnPrefixSpec)) fnPrefixUptoCard

/-- THE SECOND FORM's CARD OF 'laws.FnSizes'. -/
def fnSizesUptoCard : Claim7 := { stood := { row := fnSizesUptoRow, standIns := [], harness := (true, "19611b1df6a2529e8663e73e7ce4a509b7c7675c0b44ffde6c5dcc8dde0111af"), looks := false }, kinds := [], alts := [], laidByText := true, laidKinds := [.data, .data], laidTests := true, laidLooks := .later }
def FnSizesUptoCardSaid : Prop := Claim7.holds Tryd.pinned (.plain (OpenSpec.upto fnSizesSpec)) fnSizesUptoCard
end Rows
end Go.Proofs.YtfaopfaghnefdaaDoor
