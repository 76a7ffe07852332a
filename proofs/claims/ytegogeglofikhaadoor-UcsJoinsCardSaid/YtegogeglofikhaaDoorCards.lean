/-
  DERIVED. GIVEN WITH THE SEED: THE CARDS: each row of YtegogeglofikhaaDoorRows.lean that lists a variable, with what it lists TIED to the program's text (the seventh form; the later family's looks); each row that meets fmt, with fmt's text TOLD by the authors' own Lean function (tested against real Go, not proved from fmt's source: count such statements apart). THE CARD IS WHAT COUNTS. Prove the row's statement (the work); the ties are given (YtegogeglofikhaaDoorTie.lean); close each card by the builder's one call (the guide's Derived/Test/ToyasCard.lean, 'card_holds'). Laid BY PROGRAM, IN A SANDBOX (cutbox-door.mjs). By AI agents, Wed Nov 11 2026. No macro, syntax, notation, axiom, sorry.
-/
import Derived.Test.YtegogeglofikhaaDoorRows
import GoSem.ClaimSeven
namespace Go.Proofs.YtegogeglofikhaaDoor
namespace Rows

/-- THE TIED CARD OF 'dragomanlaw01.UcsJoins'. -/
def ucsJoinsCard : Claim7 := { stood := { row := ucsJoinsRow, standIns := [], harness := (true, "cbd88ae54b626a53cbb89364c033005addd65443411478f21aa73c1e5e4eae64"), looks := false }, kinds := [], alts := [], laidByText := true, laidKinds := [.data, .data, .data, .data, .pinned, .pinned], laidTests := true, laidLooks := .later }
def UcsJoinsCardSaid : Prop := Claim7.holds Tryd.pinned (.plain (OpenSpec.ofChange ucsJoinsSpec)) ucsJoinsCard

/-- THE TIED CARD OF 'dragomanlaw01.UcsBack'. -/
def ucsBackCard : Claim7 := { stood := { row := ucsBackRow, standIns := [], harness := (true, "cbd88ae54b626a53cbb89364c033005addd65443411478f21aa73c1e5e4eae64"), looks := false }, kinds := [], alts := [], laidByText := true, laidKinds := [.data, .data, .data, .data, .pinned, .pinned], laidTests := true, laidLooks := .later }
def UcsBackCardSaid : Prop := Claim7.holds Tryd.pinned (.plain (OpenSpec.ofChange ucsBackSpec)) ucsBackCard

/-- THE TIED CARD OF 'dragomanlaw01.UcsTells'. -/
def ucsTellsCard : Claim7 := { stood := { row := ucsTellsRow, standIns := [], harness := (true, "cbd88ae54b626a53cbb89364c033005addd65443411478f21aa73c1e5e4eae64"), looks := false }, kinds := [], alts := [], laidByText := true, laidKinds := [.data, .data, .data, .data, .pinned, .pinned], laidTests := true, laidLooks := .later }
def UcsTellsCardSaid : Prop := Claim7.holds Tryd.pinned (.plain (OpenSpec.ofChange ucsTellsSpec)) ucsTellsCard

/-- THE TIED CARD OF 'dragomanlaw01.UcsApart'. -/
def ucsApartCard : Claim7 := { stood := { row := ucsApartRow, standIns := [], harness := (true, "cbd88ae54b626a53cbb89364c033005addd65443411478f21aa73c1e5e4eae64"), looks := false }, kinds := [], alts := [], laidByText := true, laidKinds := [.data, .data, .data, .data, .pinned, .pinned], laidTests := true, laidLooks := .later }
def UcsApartCardSaid : Prop := Claim7.holds Tryd.pinned (.plain (OpenSpec.ofChange ucsApartSpec)) ucsApartCard

/-- THE TIED CARD OF 'dragomanlaw01.UcsPlanes'. -/
def ucsPlanesCard : Claim7 := { stood := { row := ucsPlanesRow, standIns := [], harness := (true, "cbd88ae54b626a53cbb89364c033005addd65443411478f21aa73c1e5e4eae64"), looks := false }, kinds := [], alts := [], laidByText := true, laidKinds := [.data, .data, .data, .data, .pinned, .pinned], laidTests := true, laidLooks := .later }
def UcsPlanesCardSaid : Prop := Claim7.holds Tryd.pinned (.plain (OpenSpec.ofChange ucsPlanesSpec)) ucsPlanesCard

/-- THE SECOND FORM's CARD OF 'dragomanlaw01.UcsJoins'. -/
def ucsJoinsUptoCard : Claim7 := { stood := { row := ucsJoinsUptoRow, standIns := [], harness := (true, "cbd88ae54b626a53cbb89364c033005addd65443411478f21aa73c1e5e4eae64"), looks := false }, kinds := [], alts := [], laidByText := true, laidKinds := [.data, .data, .data, .data, .pinned, .pinned], laidTests := true, laidLooks := .later }
def UcsJoinsUptoCardSaid : Prop := Claim7.holds Tryd.pinned (.plain (OpenSpec.upto ucsJoinsSpec)) ucsJoinsUptoCard

/-- THE SECOND FORM's CARD OF 'dragomanlaw01.UcsBack'. -/
def ucsBackUptoCard : Claim7 := { stood := { row := ucsBackUptoRow, standIns := [], harness := (true, "cbd88ae54b626a53cbb89364c033005addd65443411478f21aa73c1e5e4eae64"), looks := false }, kinds := [], alts := [], laidByText := true, laidKinds := [.data, .data, .data, .data, .pinned, .pinned], laidTests := true, laidLooks := .later }
def UcsBackUptoCardSaid : Prop := Claim7.holds Tryd.pinned (.plain (OpenSpec.upto ucsBackSpec)) ucsBackUptoCard

/-- THE SECOND FORM's CARD OF 'dragomanlaw01.UcsTells'. -/
def ucsTellsUptoCard : Claim7 := { stood := { row := ucsTellsUptoRow, standIns := [], harness := (true, "cbd88ae54b626a53cbb89364c033005addd65443411478f21aa73c1e5e4eae64"), looks := false }, kinds := [], alts := [], laidByText := true, laidKinds := [.data, .data, .data, .data, .pinned, .pinned], laidTests := true, laidLooks := .later }
def UcsTellsUptoCardSaid : Prop := Claim7.holds Tryd.pinned (.plain (OpenSpec.upto ucsTellsSpec)) ucsTellsUptoCard

/-- THE SECOND FORM's CARD OF 'dragomanlaw01.UcsApart'. -/
def ucsApartUptoCard : Claim7 := { stood := { row := ucsApartUptoRow, standIns := [], harness := (true, "cbd88ae54b626a53cbb89364c033005addd65443411478f21aa73c1e5e4eae64"), looks := false }, kinds := [], alts := [], laidByText := true, laidKinds := [.data, .data, .data, .data, .pinned, .pinned], laidTests := true, laidLooks := .later }
def UcsApartUptoCardSaid : Prop := Claim7.holds Tryd.pinned (.plain (OpenSpec.upto ucsApartSpec)) ucsApartUptoCard

/-- THE SECOND FORM's CARD OF 'dragomanlaw01.UcsPlanes'. -/
def ucsPlanesUptoCard : Claim7 := { stood := { row := ucsPlanesUptoRow, standIns := [], harness := (true, "cbd88ae54b626a53cbb89364c033005addd65443411478f21aa73c1e5e4eae64"), looks := false }, kinds := [], alts := [], laidByText := true, laidKinds := [.data, .data, .data, .data, .pinned, .pinned], laidTests := true, laidLooks := .later }
def UcsPlanesUptoCardSaid : Prop := Claim7.holds Tryd.pinned (.plain (OpenSpec.upto ucsPlanesSpec)) ucsPlanesUptoCard
end Rows
end Go.Proofs.YtegogeglofikhaaDoor
