/-
  DERIVED. GIVEN WITH THE SEED: THE CARDS: each row of YtdihghjjinlaaaaDoorRows.lean that lists a variable, with what it lists TIED to the program's text (the seventh form; the later family's looks); each row that meets fmt, with fmt's text TOLD by the authors' own Lean function (tested against real Go, not proved from fmt's source: count such statements apart). THE CARD IS WHAT COUNTS. Prove the row's statement (the work); the ties are given (YtdihghjjinlaaaaDoorTie.lean); close each card by the builder's one call (the guide's Derived/Test/ToyasCard.lean, 'card_holds'). Laid BY PROGRAM, IN A SANDBOX (cutbox-door.mjs). By AI agents, Wed Nov 11 2026. No macro, syntax, notation, axiom, sorry.
-/
import Derived.Test.YtdihghjjinlaaaaDoorRows
import GoSem.ClaimSeven
namespace Go.Proofs.YtdihghjjinlaaaaDoor
namespace Rows

/-- THE TIED CARD OF 'dragomanlaw19.JohabPacks'. -/
def johabPacksCard : Claim7 := { stood := { row := johabPacksRow, standIns := [], harness := (true, "3a950b8124e370f7c52c634f2bebec42d7077ddd92be3c9e35744d7ff0697feb"), looks := false }, kinds := [], alts := [], laidByText := true, laidKinds := [.widerDeep, .widerDeep], laidTests := true, laidLooks := .later }
def JohabPacksCardSaid : Prop := Claim7.holds Tryd.pinned (.plain (OpenSpec.ofChange johabPacksSpec)) johabPacksCard

/-- THE TIED CARD OF 'dragomanlaw19.JohabSets'. -/
def johabSetsCard : Claim7 := { stood := { row := johabSetsRow, standIns := [], harness := (true, "3a950b8124e370f7c52c634f2bebec42d7077ddd92be3c9e35744d7ff0697feb"), looks := false }, kinds := [], alts := [], laidByText := true, laidKinds := [.widerDeep, .widerDeep], laidTests := true, laidLooks := .later }
def JohabSetsCardSaid : Prop := Claim7.holds Tryd.pinned (.plain (OpenSpec.ofChange johabSetsSpec)) johabSetsCard

/-- THE TIED CARD OF 'dragomanlaw19.JohabGets'. -/
def johabGetsCard : Claim7 := { stood := { row := johabGetsRow, standIns := [], harness := (true, "3a950b8124e370f7c52c634f2bebec42d7077ddd92be3c9e35744d7ff0697feb"), looks := false }, kinds := [], alts := [], laidByText := true, laidKinds := [.widerDeep, .widerDeep], laidTests := true, laidLooks := .later }
def JohabGetsCardSaid : Prop := Claim7.holds Tryd.pinned (.plain (OpenSpec.ofChange johabGetsSpec)) johabGetsCard

/-- THE TIED CARD OF 'dragomanlaw19.JohabBack'. -/
def johabBackCard : Claim7 := { stood := { row := johabBackRow, standIns := [], harness := (true, "3a950b8124e370f7c52c634f2bebec42d7077ddd92be3c9e35744d7ff0697feb"), looks := false }, kinds := [], alts := [], laidByText := true, laidKinds := [.widerDeep, .widerDeep], laidTests := true, laidLooks := .later }
def JohabBackCardSaid : Prop := Claim7.holds Tryd.pinned (.plain (OpenSpec.ofChange johabBackSpec)) johabBackCard

/-- THE TIED CARD OF 'dragomanlaw19.JohabSyllables'. -/
def johabSyllablesCard : Claim7 := { stood := { row := johabSyllablesRow, standIns := [], harness := (true, "3a950b8124e370f7c52c634f2bebec42d7077ddd92be3c9e35744d7ff0697feb"), looks := false }, kinds := [], alts := [], laidByText := true, laidKinds := [.widerDeep, .widerDeep], laidTests := true, laidLooks := .later }
def JohabSyllablesCardSaid : Prop := Claim7.holds Tryd.pinned (.plain (OpenSpec.ofChange johabSyllablesSpec)) johabSyllablesCard

/-- THE TIED CARD OF 'dragomanlaw19.JohabPlain'. -/
def johabPlainCard : Claim7 := { stood := { row := johabPlainRow, standIns := [], harness := (true, "3a950b8124e370f7c52c634f2bebec42d7077ddd92be3c9e35744d7ff0697feb"), looks := false }, kinds := [], alts := [], laidByText := true, laidKinds := [.widerDeep, .widerDeep], laidTests := true, laidLooks := .later }
def JohabPlainCardSaid : Prop := Claim7.holds Tryd.pinned (.plain (OpenSpec.ofChange johabPlainSpec)) johabPlainCard

/-- THE SECOND FORM's CARD OF 'dragomanlaw19.JohabPacks'. -/
def johabPacksUptoCard : Claim7 := { stood := { row := johabPacksUptoRow, standIns := [], harness := (true, "3a950b8124e370f7c52c634f2bebec42d7077ddd92be3c9e35744d7ff0697feb"), looks := false }, kinds := [], alts := [], laidByText := true, laidKinds := [.widerDeep, .widerDeep], laidTests := true, laidLooks := .later }
def JohabPacksUptoCardSaid : Prop := Claim7.holds Tryd.pinned (.plain (OpenSpec.upto johabPacksSpec)) johabPacksUptoCard

/-- THE SECOND FORM's CARD OF 'dragomanlaw19.JohabSets'. -/
def johabSetsUptoCard : Claim7 := { stood := { row := johabSetsUptoRow, standIns := [], harness := (true, "3a950b8124e370f7c52c634f2bebec42d7077ddd92be3c9e35744d7ff0697feb"), looks := false }, kinds := [], alts := [], laidByText := true, laidKinds := [.widerDeep, .widerDeep], laidTests := true, laidLooks := .later }
def JohabSetsUptoCardSaid : Prop := Claim7.holds Tryd.pinned (.plain (OpenSpec.upto johabSetsSpec)) johabSetsUptoCard

/-- THE SECOND FORM's CARD OF 'dragomanlaw19.JohabGets'. -/
def johabGetsUptoCard : Claim7 := { stood := { row := johabGetsUptoRow, standIns := [], harness := (true, "3a950b8124e370f7c52c634f2bebec42d7077ddd92be3c9e35744d7ff0697feb"), looks := false }, kinds := [], alts := [], laidByText := true, laidKinds := [.widerDeep, .widerDeep], laidTests := true, laidLooks := .later }
def JohabGetsUptoCardSaid : Prop := Claim7.holds Tryd.pinned (.plain (OpenSpec.upto johabGetsSpec)) johabGetsUptoCard

/-- THE SECOND FORM's CARD OF 'dragomanlaw19.JohabBack'. -/
def johabBackUptoCard : Claim7 := { stood := { row := johabBackUptoRow, standIns := [], harness := (true, "3a950b8124e370f7c52c634f2bebec42d7077ddd92be3c9e35744d7ff0697feb"), looks := false }, kinds := [], alts := [], laidByText := true, laidKinds := [.widerDeep, .widerDeep], laidTests := true, laidLooks := .later }
def JohabBackUptoCardSaid : Prop := Claim7.holds Tryd.pinned (.plain (OpenSpec.upto johabBackSpec)) johabBackUptoCard

/-- THE SECOND FORM's CARD OF 'dragomanlaw19.JohabSyllables'. -/
def johabSyllablesUptoCard : Claim7 := { stood := { row := johabSyllablesUptoRow, standIns := [], harness := (true, "3a950b8124e370f7c52c634f2bebec42d7077ddd92be3c9e35744d7ff0697feb"), looks := false }, kinds := [], alts := [], laidByText := true, laidKinds := [.widerDeep, .widerDeep], laidTests := true, laidLooks := .later }
def JohabSyllablesUptoCardSaid : Prop := Claim7.holds Tryd.pinned (.plain (OpenSpec.upto johabSyllablesSpec)) johabSyllablesUptoCard

/-- THE SECOND FORM's CARD OF 'dragomanlaw19.JohabPlain'. -/
def johabPlainUptoCard : Claim7 := { stood := { row := johabPlainUptoRow, standIns := [], harness := (true, "3a950b8124e370f7c52c634f2bebec42d7077ddd92be3c9e35744d7ff0697feb"), looks := false }, kinds := [], alts := [], laidByText := true, laidKinds := [.widerDeep, .widerDeep], laidTests := true, laidLooks := .later }
def JohabPlainUptoCardSaid : Prop := Claim7.holds Tryd.pinned (.plain (OpenSpec.upto johabPlainSpec)) johabPlainUptoCard
end Rows
end Go.Proofs.YtdihghjjinlaaaaDoor
