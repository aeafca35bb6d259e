/-
  DERIVED. GIVEN WITH THE SEED: THE CARDS: each row of YtiffjbpejlnndaaDoorRows.lean that lists a variable, with what it lists TIED to the program's text (the seventh form; the later family's looks); each row that meets fmt, with fmt's text TOLD by the authors' own Lean function (tested against real Go, not proved from fmt's source: count such statements apart). THE CARD IS WHAT COUNTS. Prove the row's statement (the work); the ties are given (YtiffjbpejlnndaaDoorTie.lean); close each card by the builder's one call (the guide's Derived/Test/ToyasCard.lean, 'card_holds'). Laid BY PROGRAM, IN A SANDBOX (cutbox-door.mjs). By AI agents, Wed Nov 11 2026. No macro, syntax, notation, axiom, sorry.
-/
import Derived.Test.YtiffjbpejlnndaaDoorRows
import GoSem.ClaimSeven
namespace Go.Proofs.YtiffjbpejlnndaaDoor
namespace Rows

/-- THE TIED CARD OF 'laws.FnCharsSeek'. -/
def fnCharsSeekCard : Claim7 := { stood := { row := fnCharsSeekRow, standIns := [], harness := (true, "b9ed23eff7f8969e5a835cb39e946de079f384fe389909c1421b22ca5994fae3"), looks := true }, kinds := [], alts := [], laidByText := true, laidKinds := [.data, .pinned], laidTests := true, laidLooks := .later }
def FnCharsSeekCardSaid : Prop := Claim7.holds Tryd.pinned (.plain (OpenSpec.ofChange fnCharsSeekSpec)) fnCharsSeekCard

/-- THE TIED CARD OF 'laws.FnCharsThrough'. -/
def fnCharsThroughCard : Claim7 := { stood := { row := fnCharsThroughRow, standIns := [], harness := (true, "b9ed23eff7f8969e5a835cb39e946de079f384fe389909c1421b22ca5994fae3"), looks := true }, kinds := [], alts := [], laidByText := true, laidKinds := [.data, .pinned], laidTests := true, laidLooks := .later }
def FnCharsThroughCardSaid : Prop := Claim7.holds Tryd.pinned (.plain (OpenSpec.ofChange fnCharsThroughSpec)) fnCharsThroughCard

/-- THE TIED CARD OF 'laws.FnBitsOr'. -/
def fnBitsOrCard : Claim7 := { stood := { row := fnBitsOrRow, standIns := [], harness := (true, "b9ed23eff7f8969e5a835cb39e946de079f384fe389909c1421b22ca5994fae3"), looks := true }, kinds := [], alts := [], laidByText := true, laidKinds := [.data, .data, .data], laidTests := true, laidLooks := .later }
def FnBitsOrCardSaid : Prop := Claim7.holds Tryd.pinned (.plain (OpenSpec.ofChange fnBitsOrSpec)) fnBitsOrCard

/-- THE TIED CARD OF 'laws.FnBitsText'. -/
def fnBitsTextCard : Claim7 := { stood := { row := fnBitsTextRow, standIns := [], harness := (true, "b9ed23eff7f8969e5a835cb39e946de079f384fe389909c1421b22ca5994fae3"), looks := true }, kinds := [], alts := [], laidByText := true, laidKinds := [.data, .data, .data], laidTests := true, laidLooks := .later }
def FnBitsTextCardSaid : Prop := Claim7.holds Tryd.pinned (.plain (OpenSpec.ofChange fnBitsTextSpec)) fnBitsTextCard

/-- THE TIED CARD OF 'laws.FnSetAdd'. -/
def fnSetAddCard : Claim7 := { stood := { row := fnSetAddRow, standIns := [], harness := (true, "b9ed23eff7f8969e5a835cb39e946de079f384fe389909c1421b22ca5994fae3"), looks := true }, kinds := [], alts := [], laidByText := true, laidKinds := [.data, .data, .data], laidTests := true, laidLooks := .later }
def FnSetAddCardSaid : Prop := Claim7.holds Tryd.pinned (.plain (OpenSpec.ofChange fnSetAddSpec)) fnSetAddCard

/-- THE TIED CARD OF 'laws.FnSetOrder'. -/
def fnSetOrderCard : Claim7 := { stood := { row := fnSetOrderRow, standIns := [], harness := (true, "b9ed23eff7f8969e5a835cb39e946de079f384fe389909c1421b22ca5994fae3"), looks := true }, kinds := [], alts := [], laidByText := true, laidKinds := [.data, .data, .data], laidTests := true, laidLooks := .later }
def FnSetOrderCardSaid : Prop := Claim7.holds Tryd.pinned (.plain (OpenSpec.ofChange fnSetOrderSpec)) fnSetOrderCard

/-- THE SECOND FORM's CARD OF 'laws.FnCharsSeek'. -/
def fnCharsSeekUptoCard : Claim7 := { stood := { row := fnCharsSeekUptoRow, standIns := [], harness := (true, "b9ed23eff7f8969e5a835cb39e946de079f384fe389909c1421b22ca5994fae3"), looks := true }, kinds := [], alts := [], laidByText := true, laidKinds := [.data, .pinned], laidTests := true, laidLooks := .later }
def FnCharsSeekUptoCardSaid : Prop := Claim7.holds Tryd.pinned (.plain (OpenSpec.upto fnCharsSeekSpec)) fnCharsSeekUptoCard

/-- THE SECOND FORM's CARD OF 'laws.FnCharsThrough'. -/
def fnCharsThroughUptoCard : Claim7 := { stood := { row := fnCharsThroughUptoRow, standIns := [], harness := (true, "b9ed23eff7f8969e5a835cb39e946de079f384fe389909c1421b22ca5994fae3"), looks := true }, kinds := [], alts := [], laidByText := true, laidKinds := [.data, .pinned], laidTests := true, laidLooks := .later }
def FnCharsThroughUptoCardSaid : Prop := Claim7.holds Tryd.pinned (.plain (OpenSpec.upto fnCharsThroughSpec)) fnCharsThroughUptoCard

/-- THE SECOND FORM's CARD OF 'laws.FnBitsOr'. -/
def fnBitsOrUptoCard : Claim7 := { stood := { row := fnBitsOrUptoRow, standIns := [], harness := (true, "b9ed23eff7f8969e5a835cb39e946de079f384fe389909c1421b22ca5994fae3"), looks := true }, kinds := [], alts := [], laidByText := true, laidKinds := [.data, .data, .data], laidTests := true, laidLooks := .later }
def FnBitsOrUptoCardSaid : Prop := Claim7.holds Tryd.pinned (.plain (OpenSpec.upto fnBitsOrSpec)) fnBitsOrUptoCard

/-- THE SECOND FORM's CARD OF 'laws.FnBitsText'. -/
def fnBitsTextUptoCard : Claim7 := { stood := { row := fnBitsTextUptoRow, standIns := [], harness := (true, "b9ed23eff7f8969e5a835cb39e946de079f384fe389909c1421b22ca5994fae3"), looks := true }, kinds := [], alts := [], laidByText := true, laidKinds := [.data, .data, .data], laidTests := true, laidLooks := .later }
def FnBitsTextUptoCardSaid : Prop := Claim7.holds Tryd.pinned (.plain (OpenSpec.upto fnBitsTextSpec)) fnBitsTextUptoCard

/-- THE SECOND FORM's CARD OF 'laws.FnSetAdd'. -/
def fnSetAddUptoCard : Claim7 := { stood := { row := fnSetAddUptoRow, standIns := [], harness := (true, "b9ed23eff7f8969e5a835cb39e946de079f384fe389909c1421b22ca5994fae3"), looks := true }, kinds := [], alts := [], laidByText := true, laidKinds := [.data, .data, .data], laidTests := true, laidLooks := .later }
def FnSetAddUptoCardSaid : Prop := Claim7.holds Tryd.pinned (.plain (OpenSpec.upto fnSetAddSpec)) fnSetAddUptoCard

/-- THE SECOND FORM's CARD OF 'laws.FnSetOrder'. -/
def fnSetOrderUptoCard : Claim7 := { stood := { row := fnSetOrderUptoRow, standIns := [], harness := (true, "b9ed23eff7f8969e5a835cb39e946de079f384fe389909c1421b22ca5994fae3"), looks := true }, kinds := [], alts := [], laidByText := true, laidKinds := [.data, .data, .data], laidTests := true, laidLooks := .later }
def FnSetOrderUptoCardSaid : Prop := Claim7.holds Tryd.pinned (.plain (OpenSpec.upto fnSetOrderSpec)) fnSetOrderUptoCard
end Rows
end Go.Proofs.YtiffjbpejlnndaaDoor
