/-
  DERIVED. GIVEN WITH THE SEED: THE CARDS: each row of YtcnkbdbkglggcaaGreatDoorRows.lean that lists a variable, with what it lists TIED to the program's text (the seventh form; the later family's looks); each row that meets fmt, with fmt's text TOLD by the authors' own Lean function (tested against real Go, not proved from fmt's source: count such statements apart). THE CARD IS WHAT COUNTS. Prove the row's statement (the work); the ties are given (YtcnkbdbkglggcaaGreatDoorTie.lean); close each card by the builder's one call (the guide's Derived/Test/ToyasCard.lean, 'card_holds'). Laid BY PROGRAM, IN A SANDBOX (cutbox-door.mjs). By AI agents, Wed Nov 11 2026. No macro, syntax, notation, axiom, sorry.
-/
import Derived.Test.YtcnkbdbkglggcaaGreatDoorRows
import GoSem.ClaimSeven
namespace Go.Proofs.YtcnkbdbkglggcaaGreatDoor
namespace Rows

/-- THE TIED CARD OF 'laws.FnExactBool'. -/
def fnExactBoolCard : Claim7 := { stood := { row := fnExactBoolRow, standIns := [], harness := (true, "50c6957355d8dcc58e2ef1f0770f7cc996bd760cb681f2bd21b3c2865446dd3c"), looks := true }, kinds := [], alts := [], laidByText := true, laidKinds := [.data, .data, .widerDeep, .widerDeep, .data, .data, .data, .data, .data, .data, .sentinel, .sentinel, .pinned, .pinned, .pinned, .pinned], laidTests := true, laidLooks := .later }
def FnExactBoolCardSaid : Prop := Claim7.holds Tryz.pinned (.plain (OpenSpec.ofChange fnExactBoolSpec)) fnExactBoolCard

/-- THE TIED CARD OF 'laws.FnExactString'. -/
def fnExactStringCard : Claim7 := { stood := { row := fnExactStringRow, standIns := [], harness := (true, "50c6957355d8dcc58e2ef1f0770f7cc996bd760cb681f2bd21b3c2865446dd3c"), looks := true }, kinds := [], alts := [], laidByText := true, laidKinds := [.data, .data, .widerDeep, .widerDeep, .data, .data, .data, .data, .data, .sentinel, .sentinel, .pinned, .pinned], laidTests := true, laidLooks := .later }
def FnExactStringCardSaid : Prop := Claim7.holds Tryz.pinned (.plain (OpenSpec.ofChange fnExactStringSpec)) fnExactStringCard

/-- THE TIED CARD OF 'laws.FnExactStr'. -/
def fnExactStrCard : Claim7 := { stood := { row := fnExactStrRow, standIns := [], harness := (true, "50c6957355d8dcc58e2ef1f0770f7cc996bd760cb681f2bd21b3c2865446dd3c"), looks := true }, kinds := [], alts := [], laidByText := true, laidKinds := [.data, .data, .widerDeep, .widerDeep, .data, .data, .data, .data, .data, .sentinel, .sentinel, .pinned, .pinned], laidTests := true, laidLooks := .later }
def FnExactStrCardSaid : Prop := Claim7.holds Tryz.pinned (.plain (OpenSpec.ofChange fnExactStrSpec)) fnExactStrCard

/-- THE TIED CARD OF 'laws.FnExactInt'. -/
def fnExactIntCard : Claim7 := { stood := { row := fnExactIntRow, standIns := [], harness := (true, "50c6957355d8dcc58e2ef1f0770f7cc996bd760cb681f2bd21b3c2865446dd3c"), looks := true }, kinds := [], alts := [], laidByText := true, laidKinds := [.data, .data, .widerDeep, .widerDeep, .data, .data, .data, .data, .data, .sentinel, .sentinel, .pinned, .pinned], laidTests := true, laidLooks := .later }
def FnExactIntCardSaid : Prop := Claim7.holds Tryz.pinned (.plain (OpenSpec.ofChange fnExactIntSpec)) fnExactIntCard

/-- THE TIED CARD OF 'laws.FnExactPairs'. -/
def fnExactPairsCard : Claim7 := { stood := { row := fnExactPairsRow, standIns := [], harness := (true, "50c6957355d8dcc58e2ef1f0770f7cc996bd760cb681f2bd21b3c2865446dd3c"), looks := true }, kinds := [], alts := [], laidByText := true, laidKinds := [.data, .data, .widerDeep, .widerDeep, .data, .data, .data, .data, .data, .sentinel, .sentinel, .data, .pinned, .pinned], laidTests := true, laidLooks := .later }
def FnExactPairsCardSaid : Prop := Claim7.holds Tryz.pinned (.plain (OpenSpec.ofChange fnExactPairsSpec)) fnExactPairsCard

/-- THE SECOND FORM's CARD OF 'laws.FnExactBool'. -/
def fnExactBoolUptoCard : Claim7 := { stood := { row := fnExactBoolUptoRow, standIns := [], harness := (true, "50c6957355d8dcc58e2ef1f0770f7cc996bd760cb681f2bd21b3c2865446dd3c"), looks := true }, kinds := [], alts := [], laidByText := true, laidKinds := [.data, .data, .widerDeep, .widerDeep, .data, .data, .data, .data, .data, .data, .sentinel, .sentinel, .pinned, .pinned, .pinned, .pinned], laidTests := true, laidLooks := .later }
def FnExactBoolUptoCardSaid : Prop := Claim7.holds Tryz.pinned (.plain (OpenSpec.upto fnExactBoolSpec)) fnExactBoolUptoCard

/-- THE SECOND FORM's CARD OF 'laws.FnExactString'. -/
def fnExactStringUptoCard : Claim7 := { stood := { row := fnExactStringUptoRow, standIns := [], harness := (true, "50c6957355d8dcc58e2ef1f0770f7cc996bd760cb681f2bd21b3c2865446dd3c"), looks := true }, kinds := [], alts := [], laidByText := true, laidKinds := [.data, .data, .widerDeep, .widerDeep, .data, .data, .data, .data, .data, .sentinel, .sentinel, .pinned, .pinned], laidTests := true, laidLooks := .later }
def FnExactStringUptoCardSaid : Prop := Claim7.holds Tryz.pinned (.plain (OpenSpec.upto fnExactStringSpec)) fnExactStringUptoCard

/-- THE SECOND FORM's CARD OF 'laws.FnExactStr'. -/
def fnExactStrUptoCard : Claim7 := { stood := { row := fnExactStrUptoRow, standIns := [], harness := (true, "50c6957355d8dcc58e2ef1f0770f7cc996bd760cb681f2bd21b3c2865446dd3c"), looks := true }, kinds := [], alts := [], laidByText := true, laidKinds := [.data, .data, .widerDeep, .widerDeep, .data, .data, .data, .data, .data, .sentinel, .sentinel, .pinned, .pinned], laidTests := true, laidLooks := .later }
def FnExactStrUptoCardSaid : Prop := Claim7.holds Tryz.pinned (.plain (OpenSpec.upto fnExactStrSpec)) fnExactStrUptoCard

/-- THE SECOND FORM's CARD OF 'laws.FnExactInt'. -/
def fnExactIntUptoCard : Claim7 := { stood := { row := fnExactIntUptoRow, standIns := [], harness := (true, "50c6957355d8dcc58e2ef1f0770f7cc996bd760cb681f2bd21b3c2865446dd3c"), looks := true }, kinds := [], alts := [], laidByText := true, laidKinds := [.data, .data, .widerDeep, .widerDeep, .data, .data, .data, .data, .data, .sentinel, .sentinel, .pinned, .pinned], laidTests := true, laidLooks := .later }
def FnExactIntUptoCardSaid : Prop := Claim7.holds Tryz.pinned (.plain (OpenSpec.upto fnExactIntSpec)) fnExactIntUptoCard

/-- THE SECOND FORM's CARD OF 'laws.FnExactPairs'. -/
def fnExactPairsUptoCard : Claim7 := { stood := { row := fnExactPairsUptoRow, standIns := [], harness := (true, "50c6957355d8dcc58e2ef1f0770f7cc996bd760cb681f2bd21b3c2865446dd3c"), looks := true }, kinds := [], alts := [], laidByText := true, laidKinds := [.data, .data, .widerDeep, .widerDeep, .data, .data, .data, .data, .data, .sentinel, .sentinel, .data, .pinned, .pinned], laidTests := true, laidLooks := .later }
def FnExactPairsUptoCardSaid : Prop := Claim7.holds Tryz.pinned (.plain (OpenSpec.upto fnExactPairsSpec)) fnExactPairsUptoCard
end Rows
end Go.Proofs.YtcnkbdbkglggcaaGreatDoor
