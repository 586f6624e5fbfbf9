/-
  DERIVED. GIVEN WITH THE SEED: THE CARDS: each row of YthiahhieiojgdaaDoorRows.lean that lists a variable, with what it lists TIED to the program's text (the seventh form; the later family's looks); each row that meets fmt, with fmt's text TOLD by the authors' own Lean function (tested against real Go, not proved from fmt's source: count such statements apart). THE CARD IS WHAT COUNTS. Prove the row's statement (the work); the ties are given (YthiahhieiojgdaaDoorTie.lean); close each card by the builder's one call (the guide's Derived/Test/ToyasCard.lean, 'card_holds'). Laid BY PROGRAM, IN A SANDBOX (cutbox-door.mjs). By AI agents, Wed Nov 11 2026. No macro, syntax, notation, axiom, sorry.
-/
import Derived.Test.YthiahhieiojgdaaDoorRows
import GoSem.ClaimSeven
namespace Go.Proofs.YthiahhieiojgdaaDoor
namespace Rows

/-- THE TIED CARD OF 'laws.FnControls'. -/
def fnControlsCard : Claim7 := { stood := { row := fnControlsRow, standIns := [], harness := (true, "da0d5551244d53141c2e703ed1bf89727679b433e3b9cd81f0ffe10335c2710a"), looks := false }, kinds := [], alts := [], laidByText := true, laidKinds := [.data, .listed, .data, .data, .pinned], laidTests := true, laidLooks := .later }
def FnControlsCardSaid : Prop := Claim7.holds Tryd.pinned (.plain (OpenSpec.ofChange fnControlsSpec)) fnControlsCard

/-- THE TIED CARD OF 'laws.FnJSONCut'. -/
def fnJSONCutCard : Claim7 := { stood := { row := fnJSONCutRow, standIns := [], harness := (true, "da0d5551244d53141c2e703ed1bf89727679b433e3b9cd81f0ffe10335c2710a"), looks := false }, kinds := [], alts := [], laidByText := true, laidKinds := [.data, .listed, .data, .data, .pinned], laidTests := true, laidLooks := .later }
def FnJSONCutCardSaid : Prop := Claim7.holds Tryd.pinned (.plain (OpenSpec.ofChange fnJSONCutSpec)) fnJSONCutCard

/-- THE TIED CARD OF 'laws.FnJSONJoins'. -/
def fnJSONJoinsCard : Claim7 := { stood := { row := fnJSONJoinsRow, standIns := [], harness := (true, "da0d5551244d53141c2e703ed1bf89727679b433e3b9cd81f0ffe10335c2710a"), looks := false }, kinds := [], alts := [], laidByText := true, laidKinds := [.data, .listed, .data, .data, .pinned], laidTests := true, laidLooks := .later }
def FnJSONJoinsCardSaid : Prop := Claim7.holds Tryd.pinned (.plain (OpenSpec.ofChange fnJSONJoinsSpec)) fnJSONJoinsCard

/-- THE TIED CARD OF 'laws.FnJSONString'. -/
def fnJSONStringCard : Claim7 := { stood := { row := fnJSONStringRow, standIns := [], harness := (true, "da0d5551244d53141c2e703ed1bf89727679b433e3b9cd81f0ffe10335c2710a"), looks := false }, kinds := [], alts := [], laidByText := true, laidKinds := [.data, .listed, .data, .data, .pinned], laidTests := true, laidLooks := .later }
def FnJSONStringCardSaid : Prop := Claim7.holds Tryd.pinned (.plain (OpenSpec.ofChange fnJSONStringSpec)) fnJSONStringCard

/-- THE TIED CARD OF 'laws.FnNoHTML'. -/
def fnNoHTMLCard : Claim7 := { stood := { row := fnNoHTMLRow, standIns := [], harness := (true, "da0d5551244d53141c2e703ed1bf89727679b433e3b9cd81f0ffe10335c2710a"), looks := false }, kinds := [], alts := [], laidByText := true, laidKinds := [.data, .listed, .data, .data, .pinned], laidTests := true, laidLooks := .later }
def FnNoHTMLCardSaid : Prop := Claim7.holds Tryd.pinned (.plain (OpenSpec.ofChange fnNoHTMLSpec)) fnNoHTMLCard

/-- THE TIED CARD OF 'laws.FnObjectBack'. -/
def fnObjectBackCard : Claim7 := { stood := { row := fnObjectBackRow, standIns := [], harness := (true, "da0d5551244d53141c2e703ed1bf89727679b433e3b9cd81f0ffe10335c2710a"), looks := false }, kinds := [], alts := [], laidByText := true, laidKinds := [.data, .listed, .data, .data, .pinned], laidTests := true, laidLooks := .later }
def FnObjectBackCardSaid : Prop := Claim7.holds Tryd.pinned (.plain (OpenSpec.ofChange fnObjectBackSpec)) fnObjectBackCard

/-- THE TIED CARD OF 'laws.FnSafe'. -/
def fnSafeCard : Claim7 := { stood := { row := fnSafeRow, standIns := [], harness := (true, "da0d5551244d53141c2e703ed1bf89727679b433e3b9cd81f0ffe10335c2710a"), looks := false }, kinds := [], alts := [], laidByText := true, laidKinds := [.data, .listed, .data, .data, .pinned], laidTests := true, laidLooks := .later }
def FnSafeCardSaid : Prop := Claim7.holds Tryd.pinned (.plain (OpenSpec.ofChange fnSafeSpec)) fnSafeCard

/-- THE SECOND FORM's CARD OF 'laws.FnControls'. -/
def fnControlsUptoCard : Claim7 := { stood := { row := fnControlsUptoRow, standIns := [], harness := (true, "da0d5551244d53141c2e703ed1bf89727679b433e3b9cd81f0ffe10335c2710a"), looks := false }, kinds := [], alts := [], laidByText := true, laidKinds := [.data, .listed, .data, .data, .pinned], laidTests := true, laidLooks := .later }
def FnControlsUptoCardSaid : Prop := Claim7.holds Tryd.pinned (.plain (OpenSpec.upto fnControlsSpec)) fnControlsUptoCard

/-- THE SECOND FORM's CARD OF 'laws.FnJSONCut'. -/
def fnJSONCutUptoCard : Claim7 := { stood := { row := fnJSONCutUptoRow, standIns := [], harness := (true, "da0d5551244d53141c2e703ed1bf89727679b433e3b9cd81f0ffe10335c2710a"), looks := false }, kinds := [], alts := [], laidByText := true, laidKinds := [.data, .listed, .data, .data, .pinned], laidTests := true, laidLooks := .later }
def FnJSONCutUptoCardSaid : Prop := Claim7.holds Tryd.pinned (.plain (OpenSpec.upto fnJSONCutSpec)) fnJSONCutUptoCard

/-- THE SECOND FORM's CARD OF 'laws.FnJSONJoins'. -/
def fnJSONJoinsUptoCard : Claim7 := { stood := { row := fnJSONJoinsUptoRow, standIns := [], harness := (true, "da0d5551244d53141c2e703ed1bf89727679b433e3b9cd81f0ffe10335c2710a"), looks := false }, kinds := [], alts := [], laidByText := true, laidKinds := [.data, .listed, .data, .data, .pinned], laidTests := true, laidLooks := .later }
def FnJSONJoinsUptoCardSaid : Prop := Claim7.holds Tryd.pinned (.plain (OpenSpec.upto fnJSONJoinsSpec)) fnJSONJoinsUptoCard

/-- THE SECOND FORM's CARD OF 'laws.FnJSONString'. -/
def fnJSONStringUptoCard : Claim7 := { stood := { row := fnJSONStringUptoRow, standIns := [], harness := (true, "da0d5551244d53141c2e703ed1bf89727679b433e3b9cd81f0ffe10335c2710a"), looks := false }, kinds := [], alts := [], laidByText := true, laidKinds := [.data, .listed, .data, .data, .pinned], laidTests := true, laidLooks := .later }
def FnJSONStringUptoCardSaid : Prop := Claim7.holds Tryd.pinned (.plain (OpenSpec.upto fnJSONStringSpec)) fnJSONStringUptoCard

/-- THE SECOND FORM's CARD OF 'laws.FnNoHTML'. -/
def fnNoHTMLUptoCard : Claim7 := { stood := { row := fnNoHTMLUptoRow, standIns := [], harness := (true, "da0d5551244d53141c2e703ed1bf89727679b433e3b9cd81f0ffe10335c2710a"), looks := false }, kinds := [], alts := [], laidByText := true, laidKinds := [.data, .listed, .data, .data, .pinned], laidTests := true, laidLooks := .later }
def FnNoHTMLUptoCardSaid : Prop := Claim7.holds Tryd.pinned (.plain (OpenSpec.upto fnNoHTMLSpec)) fnNoHTMLUptoCard

/-- THE SECOND FORM's CARD OF 'laws.FnObjectBack'. -/
def fnObjectBackUptoCard : Claim7 := { stood := { row := fnObjectBackUptoRow, standIns := [], harness := (true, "da0d5551244d53141c2e703ed1bf89727679b433e3b9cd81f0ffe10335c2710a"), looks := false }, kinds := [], alts := [], laidByText := true, laidKinds := [.data, .listed, .data, .data, .pinned], laidTests := true, laidLooks := .later }
def FnObjectBackUptoCardSaid : Prop := Claim7.holds Tryd.pinned (.plain (OpenSpec.upto fnObjectBackSpec)) fnObjectBackUptoCard

/-- THE SECOND FORM's CARD OF 'laws.FnSafe'. -/
def fnSafeUptoCard : Claim7 := { stood := { row := fnSafeUptoRow, standIns := [], harness := (true, "da0d5551244d53141c2e703ed1bf89727679b433e3b9cd81f0ffe10335c2710a"), looks := false }, kinds := [], alts := [], laidByText := true, laidKinds := [.data, .listed, .data, .data, .pinned], laidTests := true, laidLooks := .later }
def FnSafeUptoCardSaid : Prop := Claim7.holds Tryd.pinned (.plain (OpenSpec.upto fnSafeSpec)) fnSafeUptoCard
end Rows
end Go.Proofs.YthiahhieiojgdaaDoor
