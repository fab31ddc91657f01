/-
  DERIVED. GIVEN WITH THE SEED: THE CARDS: each row of YtgiioglmkogpkaaGreatDoorRows.lean that lists a variable, with what it lists TIED to the program's text (the seventh form; the later family's looks); each row that meets fmt, with fmt's text TOLD by the authors' own Lean function (tested against real Go, not proved from fmt's source: count such statements apart). THE CARD IS WHAT COUNTS. Prove the row's statement (the work); the ties are given (YtgiioglmkogpkaaGreatDoorTie.lean); close each card by the builder's one call (the guide's Derived/Test/ToyasCard.lean, 'card_holds'). Laid BY PROGRAM, IN A SANDBOX (cutbox-door.mjs). By AI agents, Wed Nov 11 2026. No macro, syntax, notation, axiom, sorry.
-/
import Derived.Test.YtgiioglmkogpkaaGreatDoorRows
import GoSem.ClaimSeven
namespace Go.Proofs.YtgiioglmkogpkaaGreatDoor
namespace Rows

/-- THE TIED CARD OF 'laws.FnGjValuesText'. -/
def fnGjValuesTextCard : Claim7 := { stood := { row := fnGjValuesTextRow, standIns := [], harness := (true, "e543991e214f638238298962cd9473e167b1e9bdb8297f3fb2c64e4ad1769b38"), looks := true }, kinds := [], alts := [], laidByText := true, laidKinds := [.data, .data, .widerDeep, .widerDeep, .data, .data, .data, .data, .data, .sentinel, .sentinel, .data, .pinned, .pinned], laidTests := true, laidLooks := .later }
def FnGjValuesTextCardSaid : Prop := Claim7.holds Tryz.pinned (.plain (OpenSpec.ofChange fnGjValuesTextSpec)) fnGjValuesTextCard

/-- THE TIED CARD OF 'laws.FnGjAnyLines'. -/
def fnGjAnyLinesCard : Claim7 := { stood := { row := fnGjAnyLinesRow, standIns := [], harness := (true, "e543991e214f638238298962cd9473e167b1e9bdb8297f3fb2c64e4ad1769b38"), looks := true }, kinds := [], alts := [], laidByText := true, laidKinds := [.data, .data, .widerDeep, .widerDeep, .data, .data, .data, .data, .data, .sentinel, .sentinel, .data, .pinned, .pinned], laidTests := true, laidLooks := .later }
def FnGjAnyLinesCardSaid : Prop := Claim7.holds Tryz.pinned (.plain (OpenSpec.ofChange fnGjAnyLinesSpec)) fnGjAnyLinesCard

/-- THE TIED CARD OF 'laws.FnGjGroupKeys'. -/
def fnGjGroupKeysCard : Claim7 := { stood := { row := fnGjGroupKeysRow, standIns := [], harness := (true, "e543991e214f638238298962cd9473e167b1e9bdb8297f3fb2c64e4ad1769b38"), looks := true }, kinds := [], alts := [], laidByText := true, laidKinds := [.data, .data, .widerDeep, .widerDeep, .data, .data, .data, .data, .data, .sentinel, .sentinel, .data, .pinned, .pinned], laidTests := true, laidLooks := .later }
def FnGjGroupKeysCardSaid : Prop := Claim7.holds Tryz.pinned (.plain (OpenSpec.ofChange fnGjGroupKeysSpec)) fnGjGroupKeysCard

/-- THE TIED CARD OF 'laws.FnGjString'. -/
def fnGjStringCard : Claim7 := { stood := { row := fnGjStringRow, standIns := [], harness := (true, "e543991e214f638238298962cd9473e167b1e9bdb8297f3fb2c64e4ad1769b38"), looks := true }, kinds := [], alts := [], laidByText := true, laidKinds := [.data, .data, .widerDeep, .widerDeep, .data, .data, .data, .data, .data, .sentinel, .sentinel, .pinned, .pinned], laidTests := true, laidLooks := .later }
def FnGjStringCardSaid : Prop := Claim7.holds Tryz.pinned (.plain (OpenSpec.ofChange fnGjStringSpec)) fnGjStringCard

/-- THE SECOND FORM's CARD OF 'laws.FnGjValuesText'. -/
def fnGjValuesTextUptoCard : Claim7 := { stood := { row := fnGjValuesTextUptoRow, standIns := [], harness := (true, "e543991e214f638238298962cd9473e167b1e9bdb8297f3fb2c64e4ad1769b38"), looks := true }, kinds := [], alts := [], laidByText := true, laidKinds := [.data, .data, .widerDeep, .widerDeep, .data, .data, .data, .data, .data, .sentinel, .sentinel, .data, .pinned, .pinned], laidTests := true, laidLooks := .later }
def FnGjValuesTextUptoCardSaid : Prop := Claim7.holds Tryz.pinned (.plain (OpenSpec.upto fnGjValuesTextSpec)) fnGjValuesTextUptoCard

/-- THE SECOND FORM's CARD OF 'laws.FnGjAnyLines'. -/
def fnGjAnyLinesUptoCard : Claim7 := { stood := { row := fnGjAnyLinesUptoRow, standIns := [], harness := (true, "e543991e214f638238298962cd9473e167b1e9bdb8297f3fb2c64e4ad1769b38"), looks := true }, kinds := [], alts := [], laidByText := true, laidKinds := [.data, .data, .widerDeep, .widerDeep, .data, .data, .data, .data, .data, .sentinel, .sentinel, .data, .pinned, .pinned], laidTests := true, laidLooks := .later }
def FnGjAnyLinesUptoCardSaid : Prop := Claim7.holds Tryz.pinned (.plain (OpenSpec.upto fnGjAnyLinesSpec)) fnGjAnyLinesUptoCard

/-- THE SECOND FORM's CARD OF 'laws.FnGjGroupKeys'. -/
def fnGjGroupKeysUptoCard : Claim7 := { stood := { row := fnGjGroupKeysUptoRow, standIns := [], harness := (true, "e543991e214f638238298962cd9473e167b1e9bdb8297f3fb2c64e4ad1769b38"), looks := true }, kinds := [], alts := [], laidByText := true, laidKinds := [.data, .data, .widerDeep, .widerDeep, .data, .data, .data, .data, .data, .sentinel, .sentinel, .data, .pinned, .pinned], laidTests := true, laidLooks := .later }
def FnGjGroupKeysUptoCardSaid : Prop := Claim7.holds Tryz.pinned (.plain (OpenSpec.upto fnGjGroupKeysSpec)) fnGjGroupKeysUptoCard

/-- THE SECOND FORM's CARD OF 'laws.FnGjString'. -/
def fnGjStringUptoCard : Claim7 := { stood := { row := fnGjStringUptoRow, standIns := [], harness := (true, "e543991e214f638238298962cd9473e167b1e9bdb8297f3fb2c64e4ad1769b38"), looks := true }, kinds := [], alts := [], laidByText := true, laidKinds := [.data, .data, .widerDeep, .widerDeep, .data, .data, .data, .data, .data, .sentinel, .sentinel, .pinned, .pinned], laidTests := true, laidLooks := .later }
def FnGjStringUptoCardSaid : Prop := Claim7.holds Tryz.pinned (.plain (OpenSpec.upto fnGjStringSpec)) fnGjStringUptoCard
end Rows
end Go.Proofs.YtgiioglmkogpkaaGreatDoor
