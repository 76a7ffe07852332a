/-
  No cell of these rows narrows 'for every input' (looked for: loops, veiled, ifaces, maps, wideKeys, modest, calm, conditions, laid).
  DERIVED. THE GIVEN ROWS OF THIS SEAT. 8 by the template 'for every input the law returns true; each argument reads behind the call as it read before'; 0 by the template 'total and deterministic' (their statements: YtadhfojgifhjcaaTotals.lean).
  GIVEN WITH THE SEED: the statements are not yours to turn. If you find one false, say at which input.
  Laid BY PROGRAM, IN A SANDBOX (cutbox-rows.mjs): the forced cells as the released guide's own fill.sh prints them over the translation 1e6761f376b9d07a… (all of the seat's roots in one cut). By AI agents, Wed Nov 11 2026. No macro, syntax, notation, axiom, sorry.
-/
import Derived.Test.YtadhfojgifhjcaaChecked
import GoSem.Claim
import GoSem.ClaimJoined
import GoSem.ClaimMapViews
import Derived.JoinedTies
import Derived.KernelRfl
namespace Go.Proofs.Ytadhfojgifhjcaa
/- THE CELL 'sum', in the pinned program and in every row, IS THE sha256 OF THE DUMP (.gsa) THAT YtadhfojgifhjcaaProg.lean LOADS. Nothing in Lean hashes anything: it is a label: what it is worth is what the hold of that sum in a sandbox is worth. -/
noncomputable def Try.pinned : Pinned := { name := "ytadhfojgifhjcaa", sum := "1e6761f376b9d07a0735778dbfb6972cf43597d8c9e9e977bf0de7495914aca8", checked := Try.checked }
namespace Rows
def none {H : Type} : Left H := { results := [], args := [] }

/-- 'dragomanlaw16.KscParts': WHATEVER THE INPUT: true; the input reads as it did. -/
def kscPartsSpec : ChangeSpec := { name := "kscParts", fn := fun _ => fun
  | [d1, d2, d3, d4] => { results := [.lit (.bool true)], args := [d1, d2, d3, d4] }
  | _ => none }
def kscPartsRow : OpenClaim := { program := "ytadhfojgifhjcaa", sum := "1e6761f376b9d07a0735778dbfb6972cf43597d8c9e9e977bf0de7495914aca8", func := "dragoman/dragomanlaw16.KscParts", spec := "kscParts", apart := false }
def KscPartsSaid : Prop := kscPartsRow.holds Try.pinned (OpenSpec.ofChange kscPartsSpec)

/-- ITS FALSE NEIGHBOUR: 'it returns false'. Refute it at one input. -/
def kscPartsWrong : ChangeSpec := { name := "kscParts", fn := fun _ => fun
  | [d1, d2, d3, d4] => { results := [.lit (.bool false)], args := [d1, d2, d3, d4] }
  | _ => none }
def KscPartsWrongFalsely : Prop := kscPartsRow.holds Try.pinned (OpenSpec.ofChange kscPartsWrong)

/-- 'dragomanlaw02.FlowOut': WHATEVER THE INPUT: true; the input reads as it did. -/
def flowOutSpec : ChangeSpec := { name := "flowOut", fn := fun _ => fun
  | [d1, d2] => { results := [.lit (.bool true)], args := [d1, d2] }
  | _ => none }
def flowOutRow : OpenClaim := { program := "ytadhfojgifhjcaa", sum := "1e6761f376b9d07a0735778dbfb6972cf43597d8c9e9e977bf0de7495914aca8", func := "dragoman/dragomanlaw02.FlowOut", spec := "flowOut", apart := false }
def FlowOutSaid : Prop := flowOutRow.holds Try.pinned (OpenSpec.ofChange flowOutSpec)

/-- ITS FALSE NEIGHBOUR: 'it returns false'. Refute it at one input. -/
def flowOutWrong : ChangeSpec := { name := "flowOut", fn := fun _ => fun
  | [d1, d2] => { results := [.lit (.bool false)], args := [d1, d2] }
  | _ => none }
def FlowOutWrongFalsely : Prop := flowOutRow.holds Try.pinned (OpenSpec.ofChange flowOutWrong)

/-- 'dragomanlaw02.FlowIn': WHATEVER THE INPUT: true; the input reads as it did. -/
def flowInSpec : ChangeSpec := { name := "flowIn", fn := fun _ => fun
  | [d1, d2, d3] => { results := [.lit (.bool true)], args := [d1, d2, d3] }
  | _ => none }
def flowInRow : OpenClaim := { program := "ytadhfojgifhjcaa", sum := "1e6761f376b9d07a0735778dbfb6972cf43597d8c9e9e977bf0de7495914aca8", func := "dragoman/dragomanlaw02.FlowIn", spec := "flowIn", apart := false }
def FlowInSaid : Prop := flowInRow.holds Try.pinned (OpenSpec.ofChange flowInSpec)

/-- ITS FALSE NEIGHBOUR: 'it returns false'. Refute it at one input. -/
def flowInWrong : ChangeSpec := { name := "flowIn", fn := fun _ => fun
  | [d1, d2, d3] => { results := [.lit (.bool false)], args := [d1, d2, d3] }
  | _ => none }
def FlowInWrongFalsely : Prop := flowInRow.holds Try.pinned (OpenSpec.ofChange flowInWrong)

/-- 'dragomanlaw14.JisHalf': WHATEVER THE INPUT: true; the input reads as it did. -/
def jisHalfSpec : ChangeSpec := { name := "jisHalf", fn := fun _ => fun
  | [d1, d2] => { results := [.lit (.bool true)], args := [d1, d2] }
  | _ => none }
def jisHalfRow : OpenClaim := { program := "ytadhfojgifhjcaa", sum := "1e6761f376b9d07a0735778dbfb6972cf43597d8c9e9e977bf0de7495914aca8", func := "dragoman/dragomanlaw14.JisHalf", spec := "jisHalf", apart := false }
def JisHalfSaid : Prop := jisHalfRow.holds Try.pinned (OpenSpec.ofChange jisHalfSpec)

/-- ITS FALSE NEIGHBOUR: 'it returns false'. Refute it at one input. -/
def jisHalfWrong : ChangeSpec := { name := "jisHalf", fn := fun _ => fun
  | [d1, d2] => { results := [.lit (.bool false)], args := [d1, d2] }
  | _ => none }
def JisHalfWrongFalsely : Prop := jisHalfRow.holds Try.pinned (OpenSpec.ofChange jisHalfWrong)

/-- 'dragomanlaw02.FlowSums': WHATEVER THE INPUT: true; the input reads as it did. -/
def flowSumsSpec : ChangeSpec := { name := "flowSums", fn := fun _ => fun
  | [d1, d2, d3] => { results := [.lit (.bool true)], args := [d1, d2, d3] }
  | _ => none }
def flowSumsRow : OpenClaim := { program := "ytadhfojgifhjcaa", sum := "1e6761f376b9d07a0735778dbfb6972cf43597d8c9e9e977bf0de7495914aca8", func := "dragoman/dragomanlaw02.FlowSums", spec := "flowSums", apart := false }
def FlowSumsSaid : Prop := flowSumsRow.holds Try.pinned (OpenSpec.ofChange flowSumsSpec)

/-- ITS FALSE NEIGHBOUR: 'it returns false'. Refute it at one input. -/
def flowSumsWrong : ChangeSpec := { name := "flowSums", fn := fun _ => fun
  | [d1, d2, d3] => { results := [.lit (.bool false)], args := [d1, d2, d3] }
  | _ => none }
def FlowSumsWrongFalsely : Prop := flowSumsRow.holds Try.pinned (OpenSpec.ofChange flowSumsWrong)

/-- 'dragomanlaw02.FlowPieces': WHATEVER THE INPUT: true; the input reads as it did. -/
def flowPiecesSpec : ChangeSpec := { name := "flowPieces", fn := fun _ => fun
  | [d1, d2, d3] => { results := [.lit (.bool true)], args := [d1, d2, d3] }
  | _ => none }
def flowPiecesRow : OpenClaim := { program := "ytadhfojgifhjcaa", sum := "1e6761f376b9d07a0735778dbfb6972cf43597d8c9e9e977bf0de7495914aca8", func := "dragoman/dragomanlaw02.FlowPieces", spec := "flowPieces", apart := false }
def FlowPiecesSaid : Prop := flowPiecesRow.holds Try.pinned (OpenSpec.ofChange flowPiecesSpec)

/-- ITS FALSE NEIGHBOUR: 'it returns false'. Refute it at one input. -/
def flowPiecesWrong : ChangeSpec := { name := "flowPieces", fn := fun _ => fun
  | [d1, d2, d3] => { results := [.lit (.bool false)], args := [d1, d2, d3] }
  | _ => none }
def FlowPiecesWrongFalsely : Prop := flowPiecesRow.holds Try.pinned (OpenSpec.ofChange flowPiecesWrong)

/-- 'dragomanlaw18.SjisPacks': WHATEVER THE INPUT: true; the input reads as it did. -/
def sjisPacksSpec : ChangeSpec := { name := "sjisPacks", fn := fun _ => fun
  | [d1, d2, d3, d4] => { results := [.lit (.bool true)], args := [d1, d2, d3, d4] }
  | _ => none }
def sjisPacksRow : OpenClaim := { program := "ytadhfojgifhjcaa", sum := "1e6761f376b9d07a0735778dbfb6972cf43597d8c9e9e977bf0de7495914aca8", func := "dragoman/dragomanlaw18.SjisPacks", spec := "sjisPacks", apart := false }
def SjisPacksSaid : Prop := sjisPacksRow.holds Try.pinned (OpenSpec.ofChange sjisPacksSpec)

/-- ITS FALSE NEIGHBOUR: 'it returns false'. Refute it at one input. -/
def sjisPacksWrong : ChangeSpec := { name := "sjisPacks", fn := fun _ => fun
  | [d1, d2, d3, d4] => { results := [.lit (.bool false)], args := [d1, d2, d3, d4] }
  | _ => none }
def SjisPacksWrongFalsely : Prop := sjisPacksRow.holds Try.pinned (OpenSpec.ofChange sjisPacksWrong)

/-- 'dragomanlaw26.ScriptDigits': WHATEVER THE INPUT: true; the input reads as it did. -/
def scriptDigitsSpec : ChangeSpec := { name := "scriptDigits", fn := fun _ => fun
  | [d1, d2] => { results := [.lit (.bool true)], args := [d1, d2] }
  | _ => none }
def scriptDigitsRow : OpenClaim := { program := "ytadhfojgifhjcaa", sum := "1e6761f376b9d07a0735778dbfb6972cf43597d8c9e9e977bf0de7495914aca8", func := "dragoman/dragomanlaw26.ScriptDigits", spec := "scriptDigits", inPlace := ["internal/abi.NoEscape"], apart := false }
def ScriptDigitsSaid : Prop := scriptDigitsRow.holds Try.pinned (OpenSpec.ofChange scriptDigitsSpec)

/-- ITS FALSE NEIGHBOUR: 'it returns false'. Refute it at one input. -/
def scriptDigitsWrong : ChangeSpec := { name := "scriptDigits", fn := fun _ => fun
  | [d1, d2] => { results := [.lit (.bool false)], args := [d1, d2] }
  | _ => none }
def ScriptDigitsWrongFalsely : Prop := scriptDigitsRow.holds Try.pinned (OpenSpec.ofChange scriptDigitsWrong)

/- THE SECOND FORM. 'bulk': how many values and letters a reading holds, each counted each time it is reached (what is shared counts as often as it is met; a slice's spare places count too). A statement '..UptoSaid' is the law's where the arguments, and the package variables that the reading takes, are together of bulk at most 1048576: NARROWER than '..Said'. Prove '..Said' where nothing that the law and all that it calls make is longer than what came in: it says more and counts as full. Else prove '..UptoSaid'. A law counts once. -/
mutual
def uptoBulk {H : Type} : DataW H → Nat
  | .lit (.string bytes) => bytes.length + 1
  | .lit _ => 1
  | .nil => 1
  | .ptr d => uptoBulk d + 1
  | .slice elems spare => uptoBulkAll elems + uptoBulkAll spare + 1
  | .agg parts => uptoBulkAll parts + 1
  | .iface _ d => uptoBulk d + 1
  | .map entries => uptoBulkEntries entries + 1
  | .held _ => 1
def uptoBulkAll {H : Type} : List (DataW H) → Nat
  | [] => 0
  | d :: r => uptoBulk d + uptoBulkAll r
def uptoBulkEntries {H : Type} : List (Lit × DataW H) → Nat
  | [] => 0
  | x :: r => uptoBulkEntry x + uptoBulkEntries r
def uptoBulkEntry {H : Type} : Lit × DataW H → Nat
  | (.string bytes, d) => bytes.length + uptoBulk d + 1
  | (_, d) => uptoBulk d + 1
 end
def uptoSmall : (H : Type) → List (DataW H) → Bool := fun _ ds => decide (uptoBulkAll ds ≤ 1048576)
def OpenSpec.upto (s : _root_.Go.ChangeSpec) : _root_.Go.OpenSpec := { _root_.Go.OpenSpec.ofChange s with cond := some uptoSmall }

/-- 'dragomanlaw16.KscParts', WHERE WHAT IT READS IS OF BULK AT MOST 1048576: true; the input reads as it did. -/
def kscPartsUptoRow : OpenClaim := { program := "ytadhfojgifhjcaa", sum := "1e6761f376b9d07a0735778dbfb6972cf43597d8c9e9e977bf0de7495914aca8", func := "dragoman/dragomanlaw16.KscParts", spec := "kscParts", apart := false, narrowed := true }
def KscPartsUptoSaid : Prop := kscPartsUptoRow.holds Try.pinned (OpenSpec.upto kscPartsSpec)

/-- 'dragomanlaw02.FlowOut', WHERE WHAT IT READS IS OF BULK AT MOST 1048576: true; the input reads as it did. -/
def flowOutUptoRow : OpenClaim := { program := "ytadhfojgifhjcaa", sum := "1e6761f376b9d07a0735778dbfb6972cf43597d8c9e9e977bf0de7495914aca8", func := "dragoman/dragomanlaw02.FlowOut", spec := "flowOut", apart := false, narrowed := true }
def FlowOutUptoSaid : Prop := flowOutUptoRow.holds Try.pinned (OpenSpec.upto flowOutSpec)

/-- 'dragomanlaw02.FlowIn', WHERE WHAT IT READS IS OF BULK AT MOST 1048576: true; the input reads as it did. -/
def flowInUptoRow : OpenClaim := { program := "ytadhfojgifhjcaa", sum := "1e6761f376b9d07a0735778dbfb6972cf43597d8c9e9e977bf0de7495914aca8", func := "dragoman/dragomanlaw02.FlowIn", spec := "flowIn", apart := false, narrowed := true }
def FlowInUptoSaid : Prop := flowInUptoRow.holds Try.pinned (OpenSpec.upto flowInSpec)

/-- 'dragomanlaw14.JisHalf', WHERE WHAT IT READS IS OF BULK AT MOST 1048576: true; the input reads as it did. -/
def jisHalfUptoRow : OpenClaim := { program := "ytadhfojgifhjcaa", sum := "1e6761f376b9d07a0735778dbfb6972cf43597d8c9e9e977bf0de7495914aca8", func := "dragoman/dragomanlaw14.JisHalf", spec := "jisHalf", apart := false, narrowed := true }
def JisHalfUptoSaid : Prop := jisHalfUptoRow.holds Try.pinned (OpenSpec.upto jisHalfSpec)

/-- 'dragomanlaw02.FlowSums', WHERE WHAT IT READS IS OF BULK AT MOST 1048576: true; the input reads as it did. -/
def flowSumsUptoRow : OpenClaim := { program := "ytadhfojgifhjcaa", sum := "1e6761f376b9d07a0735778dbfb6972cf43597d8c9e9e977bf0de7495914aca8", func := "dragoman/dragomanlaw02.FlowSums", spec := "flowSums", apart := false, narrowed := true }
def FlowSumsUptoSaid : Prop := flowSumsUptoRow.holds Try.pinned (OpenSpec.upto flowSumsSpec)

/-- 'dragomanlaw02.FlowPieces', WHERE WHAT IT READS IS OF BULK AT MOST 1048576: true; the input reads as it did. -/
def flowPiecesUptoRow : OpenClaim := { program := "ytadhfojgifhjcaa", sum := "1e6761f376b9d07a0735778dbfb6972cf43597d8c9e9e977bf0de7495914aca8", func := "dragoman/dragomanlaw02.FlowPieces", spec := "flowPieces", apart := false, narrowed := true }
def FlowPiecesUptoSaid : Prop := flowPiecesUptoRow.holds Try.pinned (OpenSpec.upto flowPiecesSpec)

/-- 'dragomanlaw18.SjisPacks', WHERE WHAT IT READS IS OF BULK AT MOST 1048576: true; the input reads as it did. -/
def sjisPacksUptoRow : OpenClaim := { program := "ytadhfojgifhjcaa", sum := "1e6761f376b9d07a0735778dbfb6972cf43597d8c9e9e977bf0de7495914aca8", func := "dragoman/dragomanlaw18.SjisPacks", spec := "sjisPacks", apart := false, narrowed := true }
def SjisPacksUptoSaid : Prop := sjisPacksUptoRow.holds Try.pinned (OpenSpec.upto sjisPacksSpec)

/-- 'dragomanlaw26.ScriptDigits', WHERE WHAT IT READS IS OF BULK AT MOST 1048576: true; the input reads as it did. -/
def scriptDigitsUptoRow : OpenClaim := { program := "ytadhfojgifhjcaa", sum := "1e6761f376b9d07a0735778dbfb6972cf43597d8c9e9e977bf0de7495914aca8", func := "dragoman/dragomanlaw26.ScriptDigits", spec := "scriptDigits", inPlace := ["internal/abi.NoEscape"], apart := false, narrowed := true }
def ScriptDigitsUptoSaid : Prop := scriptDigitsUptoRow.holds Try.pinned (OpenSpec.upto scriptDigitsSpec)

end Rows
end Go.Proofs.Ytadhfojgifhjcaa
