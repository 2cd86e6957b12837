/-
  DERIVED. GIVEN WITH THE SEED: THE CARDS: each row of YtmoabfpdlbngeaaGreatDoorRows.lean that lists a variable, with what it lists TIED to the program's text (the seventh form; the later family's looks); each row that meets fmt, with fmt's text TOLD by the authors' own Lean function (tested against real Go, not proved from fmt's source: count such statements apart). THE CARD IS WHAT COUNTS. Prove the row's statement (the work); the ties are given (YtmoabfpdlbngeaaGreatDoorTie.lean); close each card by the builder's one call (the guide's Derived/Test/ToyasCard.lean, 'card_holds'). Laid BY PROGRAM, IN A SANDBOX (cutbox-door.mjs). By AI agents, Wed Nov 11 2026. No macro, syntax, notation, axiom, sorry.
-/
import Derived.Test.YtmoabfpdlbngeaaGreatDoorRows
import GoSem.ClaimSeven
namespace Go.Proofs.YtmoabfpdlbngeaaGreatDoor
namespace Rows

/-- THE TIED CARD OF 'laws.FnScriptWhole'. -/
def fnScriptWholeCard : Claim7 := { stood := { row := fnScriptWholeRow, standIns := [], harness := (true, "a42644400f0018265f0bb198f0d86b67e5c7510b7059093655c585f12e8178fa"), looks := false }, kinds := [], alts := [], laidByText := true, laidKinds := [.data, .data, .data], laidTests := true, laidLooks := .later }
def FnScriptWholeCardSaid : Prop := Claim7.holds Tryz.pinned (.plain (OpenSpec.ofChange fnScriptWholeSpec)) fnScriptWholeCard

/-- THE TIED CARD OF 'laws.FnSameWhole'. -/
def fnSameWholeCard : Claim7 := { stood := { row := fnSameWholeRow, standIns := [], harness := (true, "a42644400f0018265f0bb198f0d86b67e5c7510b7059093655c585f12e8178fa"), looks := false }, kinds := [], alts := [], laidByText := true, laidKinds := [.data, .data, .data], laidTests := true, laidLooks := .later }
def FnSameWholeCardSaid : Prop := Claim7.holds Tryz.pinned (.plain (OpenSpec.ofChange fnSameWholeSpec)) fnSameWholeCard

/-- THE TIED CARD OF 'laws.FnFreeWhole'. -/
def fnFreeWholeCard : Claim7 := { stood := { row := fnFreeWholeRow, standIns := [], harness := (true, "a42644400f0018265f0bb198f0d86b67e5c7510b7059093655c585f12e8178fa"), looks := false }, kinds := [], alts := [], laidByText := true, laidKinds := [.data, .data, .data], laidTests := true, laidLooks := .later }
def FnFreeWholeCardSaid : Prop := Claim7.holds Tryz.pinned (.plain (OpenSpec.ofChange fnFreeWholeSpec)) fnFreeWholeCard

/-- THE TIED CARD OF 'laws.FnAsksWhole'. -/
def fnAsksWholeCard : Claim7 := { stood := { row := fnAsksWholeRow, standIns := [], harness := (true, "a42644400f0018265f0bb198f0d86b67e5c7510b7059093655c585f12e8178fa"), looks := false }, kinds := [], alts := [], laidByText := true, laidKinds := [.data, .data, .data], laidTests := true, laidLooks := .later }
def FnAsksWholeCardSaid : Prop := Claim7.holds Tryz.pinned (.plain (OpenSpec.ofChange fnAsksWholeSpec)) fnAsksWholeCard

/-- THE TIED CARD OF 'laws.FnRangeWhole'. -/
def fnRangeWholeCard : Claim7 := { stood := { row := fnRangeWholeRow, standIns := [], harness := (true, "a42644400f0018265f0bb198f0d86b67e5c7510b7059093655c585f12e8178fa"), looks := false }, kinds := [], alts := [], laidByText := true, laidKinds := [.data, .data, .data], laidTests := true, laidLooks := .later }
def FnRangeWholeCardSaid : Prop := Claim7.holds Tryz.pinned (.plain (OpenSpec.ofChange fnRangeWholeSpec)) fnRangeWholeCard

/-- THE SECOND FORM's CARD OF 'laws.FnScriptWhole'. -/
def fnScriptWholeUptoCard : Claim7 := { stood := { row := fnScriptWholeUptoRow, standIns := [], harness := (true, "a42644400f0018265f0bb198f0d86b67e5c7510b7059093655c585f12e8178fa"), looks := false }, kinds := [], alts := [], laidByText := true, laidKinds := [.data, .data, .data], laidTests := true, laidLooks := .later }
def FnScriptWholeUptoCardSaid : Prop := Claim7.holds Tryz.pinned (.plain (OpenSpec.upto fnScriptWholeSpec)) fnScriptWholeUptoCard

/-- THE SECOND FORM's CARD OF 'laws.FnSameWhole'. -/
def fnSameWholeUptoCard : Claim7 := { stood := { row := fnSameWholeUptoRow, standIns := [], harness := (true, "a42644400f0018265f0bb198f0d86b67e5c7510b7059093655c585f12e8178fa"), looks := false }, kinds := [], alts := [], laidByText := true, laidKinds := [.data, .data, .data], laidTests := true, laidLooks := .later }
def FnSameWholeUptoCardSaid : Prop := Claim7.holds Tryz.pinned (.plain (OpenSpec.upto fnSameWholeSpec)) fnSameWholeUptoCard

/-- THE SECOND FORM's CARD OF 'laws.FnFreeWhole'. -/
def fnFreeWholeUptoCard : Claim7 := { stood := { row := fnFreeWholeUptoRow, standIns := [], harness := (true, "a42644400f0018265f0bb198f0d86b67e5c7510b7059093655c585f12e8178fa"), looks := false }, kinds := [], alts := [], laidByText := true, laidKinds := [.data, .data, .data], laidTests := true, laidLooks := .later }
def FnFreeWholeUptoCardSaid : Prop := Claim7.holds Tryz.pinned (.plain (OpenSpec.upto fnFreeWholeSpec)) fnFreeWholeUptoCard

/-- THE SECOND FORM's CARD OF 'laws.FnAsksWhole'. -/
def fnAsksWholeUptoCard : Claim7 := { stood := { row := fnAsksWholeUptoRow, standIns := [], harness := (true, "a42644400f0018265f0bb198f0d86b67e5c7510b7059093655c585f12e8178fa"), looks := false }, kinds := [], alts := [], laidByText := true, laidKinds := [.data, .data, .data], laidTests := true, laidLooks := .later }
def FnAsksWholeUptoCardSaid : Prop := Claim7.holds Tryz.pinned (.plain (OpenSpec.upto fnAsksWholeSpec)) fnAsksWholeUptoCard

/-- THE SECOND FORM's CARD OF 'laws.FnRangeWhole'. -/
def fnRangeWholeUptoCard : Claim7 := { stood := { row := fnRangeWholeUptoRow, standIns := [], harness := (true, "a42644400f0018265f0bb198f0d86b67e5c7510b7059093655c585f12e8178fa"), looks := false }, kinds := [], alts := [], laidByText := true, laidKinds := [.data, .data, .data], laidTests := true, laidLooks := .later }
def FnRangeWholeUptoCardSaid : Prop := Claim7.holds Tryz.pinned (.plain (OpenSpec.upto fnRangeWholeSpec)) fnRangeWholeUptoCard
end Rows
end Go.Proofs.YtmoabfpdlbngeaaGreatDoor
