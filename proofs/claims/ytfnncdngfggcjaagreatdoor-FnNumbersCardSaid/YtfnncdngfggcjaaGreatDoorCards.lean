/-
  DERIVED. GIVEN WITH THE SEED: THE CARDS: each row of YtfnncdngfggcjaaGreatDoorRows.lean that lists a variable, with what it lists TIED to the program's text (the seventh form; the later family's looks); each row that meets fmt, with fmt's text TOLD by the authors' own Lean function (tested against real Go, not proved from fmt's source: count such statements apart). THE CARD IS WHAT COUNTS. Prove the row's statement (the work); the ties are given (YtfnncdngfggcjaaGreatDoorTie.lean); close each card by the builder's one call (the guide's Derived/Test/ToyasCard.lean, 'card_holds'). Laid BY PROGRAM, IN A SANDBOX (cutbox-door.mjs). By AI agents, Wed Nov 11 2026. No macro, syntax, notation, axiom, sorry.
-/
import Derived.Test.YtfnncdngfggcjaaGreatDoorRows
import GoSem.ClaimSeven
namespace Go.Proofs.YtfnncdngfggcjaaGreatDoor
namespace Rows

/-- THE TIED CARD OF 'laws.FnOpen'. -/
def fnOpenCard : Claim7 := { stood := { row := fnOpenRow, standIns := [], harness := (true, "b053881839061d948de7e3387de0f51e6a5d2726b132922004bdfe159390e291"), looks := true }, kinds := [], alts := [], laidByText := true, laidKinds := [.data, .data], laidTests := true, laidLooks := .later }
def FnOpenCardSaid : Prop := Claim7.holds Tryz.pinned (.plain (OpenSpec.ofChange fnOpenSpec)) fnOpenCard

/-- THE TIED CARD OF 'laws.FnNumbers'. -/
def fnNumbersCard : Claim7 := { stood := { row := fnNumbersRow, standIns := [], harness := (true, "b053881839061d948de7e3387de0f51e6a5d2726b132922004bdfe159390e291"), looks := true }, kinds := [], alts := [], laidByText := true, laidKinds := [.data, .data, .sentinel, .sentinel, .data, .sentinel], laidTests := true, laidLooks := .later }
def FnNumbersCardSaid : Prop := Claim7.holds Tryz.pinned (.plain (OpenSpec.ofChange fnNumbersSpec)) fnNumbersCard

/-- THE TIED CARD OF 'laws.FnAgain'. -/
def fnAgainCard : Claim7 := { stood := { row := fnAgainRow, standIns := [], harness := (true, "b053881839061d948de7e3387de0f51e6a5d2726b132922004bdfe159390e291"), looks := true }, kinds := [], alts := [], laidByText := true, laidKinds := [.data, .data], laidTests := true, laidLooks := .later }
def FnAgainCardSaid : Prop := Claim7.holds Tryz.pinned (.plain (OpenSpec.ofChange fnAgainSpec)) fnAgainCard

/-- THE TIED CARD OF 'laws.FnSave'. -/
def fnSaveCard : Claim7 := { stood := { row := fnSaveRow, standIns := [], harness := (true, "b053881839061d948de7e3387de0f51e6a5d2726b132922004bdfe159390e291"), looks := true }, kinds := [], alts := [], laidByText := true, laidKinds := [.data, .data], laidTests := true, laidLooks := .later }
def FnSaveCardSaid : Prop := Claim7.holds Tryz.pinned (.plain (OpenSpec.ofChange fnSaveSpec)) fnSaveCard

/-- THE SECOND FORM's CARD OF 'laws.FnOpen'. -/
def fnOpenUptoCard : Claim7 := { stood := { row := fnOpenUptoRow, standIns := [], harness := (true, "b053881839061d948de7e3387de0f51e6a5d2726b132922004bdfe159390e291"), looks := true }, kinds := [], alts := [], laidByText := true, laidKinds := [.data, .data], laidTests := true, laidLooks := .later }
def FnOpenUptoCardSaid : Prop := Claim7.holds Tryz.pinned (.plain (OpenSpec.upto fnOpenSpec)) fnOpenUptoCard

/-- THE SECOND FORM's CARD OF 'laws.FnNumbers'. -/
def fnNumbersUptoCard : Claim7 := { stood := { row := fnNumbersUptoRow, standIns := [], harness := (true, "b053881839061d948de7e3387de0f51e6a5d2726b132922004bdfe159390e291"), looks := true }, kinds := [], alts := [], laidByText := true, laidKinds := [.data, .data, .sentinel, .sentinel, .data, .sentinel], laidTests := true, laidLooks := .later }
def FnNumbersUptoCardSaid : Prop := Claim7.holds Tryz.pinned (.plain (OpenSpec.upto fnNumbersSpec)) fnNumbersUptoCard

/-- THE SECOND FORM's CARD OF 'laws.FnAgain'. -/
def fnAgainUptoCard : Claim7 := { stood := { row := fnAgainUptoRow, standIns := [], harness := (true, "b053881839061d948de7e3387de0f51e6a5d2726b132922004bdfe159390e291"), looks := true }, kinds := [], alts := [], laidByText := true, laidKinds := [.data, .data], laidTests := true, laidLooks := .later }
def FnAgainUptoCardSaid : Prop := Claim7.holds Tryz.pinned (.plain (OpenSpec.upto fnAgainSpec)) fnAgainUptoCard

/-- THE SECOND FORM's CARD OF 'laws.FnSave'. -/
def fnSaveUptoCard : Claim7 := { stood := { row := fnSaveUptoRow, standIns := [], harness := (true, "b053881839061d948de7e3387de0f51e6a5d2726b132922004bdfe159390e291"), looks := true }, kinds := [], alts := [], laidByText := true, laidKinds := [.data, .data], laidTests := true, laidLooks := .later }
def FnSaveUptoCardSaid : Prop := Claim7.holds Tryz.pinned (.plain (OpenSpec.upto fnSaveSpec)) fnSaveUptoCard
end Rows
end Go.Proofs.YtfnncdngfggcjaaGreatDoor
