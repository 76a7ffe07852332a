/-
  NARROWER THAN 'FOR EVERY INPUT', by the rows' own cells (each row's printed sentence says how): JohabPacks: laid · JohabSets: laid · JohabGets: laid · JohabBack: laid · JohabSyllables: laid · JohabPlain: laid.
  DERIVED. THE GIVEN ROWS OF THIS SEAT. 6 by the template 'for every input the law returns true; each argument reads behind the call as it read before'; 0 by the template 'total and deterministic' (their statements: YtdihghjjinlaaaaDoorTotals.lean).
  GIVEN WITH THE SEED: the statements are not yours to turn. If you find one false, say at which input.
  Laid BY PROGRAM, IN A SANDBOX (cutbox-rows.mjs): the forced cells as the released guide's own fill.sh prints them over the translation 21c2f1703863406d… (all of the seat's roots in one cut). By AI agents, Wed Nov 11 2026. No macro, syntax, notation, axiom, sorry.
-/
import Derived.Test.YtdihghjjinlaaaaDoorChecked
import GoSem.Claim
import GoSem.ClaimJoined
import GoSem.ClaimMapViews
import Derived.JoinedTies
import Derived.KernelRfl
namespace Go.Proofs.YtdihghjjinlaaaaDoor
/- THE CELL 'sum', in the pinned program and in every row, IS THE sha256 OF THE DUMP (.gsa) THAT YtdihghjjinlaaaaDoorProg.lean LOADS. Nothing in Lean hashes anything: it is a label: what it is worth is what the hold of that sum in a sandbox is worth. -/
noncomputable def Tryd.pinned : Pinned := { name := "ytdihghjjinlaaaadoor", sum := "21c2f1703863406dacb14a9f9b545fa107fb914f5e5a17b5ced4d9ab413658b1", checked := Tryd.checked }
namespace Rows
def none {H : Type} : Left H := { results := [], args := [] }

/- WHAT THE LISTED PACKAGE-LEVEL VARIABLES READ AS WHEN THE CALL BEGINS. Each datum BY PROGRAM (the guide's laid-datum.mjs) off the statement by which the dump's own 'gosem.cut.vars' lays the variable. In a bare row this is a premise. The card (YtdihghjjinlaaaaDoorCards.lean) ties it to the program's text. -/
def laid_dragoman_johab_middles {H : Type} : DataW H := .agg [.lit (.int .i64 3), .lit (.int .i64 4), .lit (.int .i64 5), .lit (.int .i64 6), .lit (.int .i64 7), .lit (.int .i64 10), .lit (.int .i64 11), .lit (.int .i64 12), .lit (.int .i64 13), .lit (.int .i64 14), .lit (.int .i64 15), .lit (.int .i64 18), .lit (.int .i64 19), .lit (.int .i64 20), .lit (.int .i64 21), .lit (.int .i64 22), .lit (.int .i64 23), .lit (.int .i64 26), .lit (.int .i64 27), .lit (.int .i64 28), .lit (.int .i64 29)]
def laid_dragoman_johab_lasts {H : Type} : DataW H := .agg [.lit (.int .i64 1), .lit (.int .i64 2), .lit (.int .i64 3), .lit (.int .i64 4), .lit (.int .i64 5), .lit (.int .i64 6), .lit (.int .i64 7), .lit (.int .i64 8), .lit (.int .i64 9), .lit (.int .i64 10), .lit (.int .i64 11), .lit (.int .i64 12), .lit (.int .i64 13), .lit (.int .i64 14), .lit (.int .i64 15), .lit (.int .i64 16), .lit (.int .i64 17), .lit (.int .i64 19), .lit (.int .i64 20), .lit (.int .i64 21), .lit (.int .i64 22), .lit (.int .i64 23), .lit (.int .i64 24), .lit (.int .i64 25), .lit (.int .i64 26), .lit (.int .i64 27), .lit (.int .i64 28), .lit (.int .i64 29)]

/-- 'dragomanlaw19.JohabPacks': WHATEVER THE INPUT: true; the input reads as it did. -/
def johabPacksSpec : ChangeSpec := { name := "johabPacks", fn := fun _ => fun
  | [d1, d2, d3, d4] => { results := [.lit (.bool true)], args := [d1, d2, d3, d4] }
  | _ => none }
def johabPacksRow : OpenClaim := { program := "ytdihghjjinlaaaadoor", sum := "21c2f1703863406dacb14a9f9b545fa107fb914f5e5a17b5ced4d9ab413658b1", func := "dragoman/dragomanlaw19.JohabPacks", spec := "johabPacks", named := ["dragoman/johab.middles", "dragoman/johab.lasts"], apart := false, laid := [("dragoman/johab.middles", laid_dragoman_johab_middles), ("dragoman/johab.lasts", laid_dragoman_johab_lasts)] }
def JohabPacksSaid : Prop := johabPacksRow.holds Tryd.pinned (OpenSpec.ofChange johabPacksSpec)

/-- ITS FALSE NEIGHBOUR: 'it returns false'. Refute it at one input. -/
def johabPacksWrong : ChangeSpec := { name := "johabPacks", fn := fun _ => fun
  | [d1, d2, d3, d4] => { results := [.lit (.bool false)], args := [d1, d2, d3, d4] }
  | _ => none }
def JohabPacksWrongFalsely : Prop := johabPacksRow.holds Tryd.pinned (OpenSpec.ofChange johabPacksWrong)

/-- 'dragomanlaw19.JohabSets': WHATEVER THE INPUT: true; the input reads as it did. -/
def johabSetsSpec : ChangeSpec := { name := "johabSets", fn := fun _ => fun
  | [d] => { results := [.lit (.bool true)], args := [d] }
  | _ => none }
def johabSetsRow : OpenClaim := { program := "ytdihghjjinlaaaadoor", sum := "21c2f1703863406dacb14a9f9b545fa107fb914f5e5a17b5ced4d9ab413658b1", func := "dragoman/dragomanlaw19.JohabSets", spec := "johabSets", named := ["dragoman/johab.middles", "dragoman/johab.lasts"], apart := false, laid := [("dragoman/johab.middles", laid_dragoman_johab_middles), ("dragoman/johab.lasts", laid_dragoman_johab_lasts)] }
def JohabSetsSaid : Prop := johabSetsRow.holds Tryd.pinned (OpenSpec.ofChange johabSetsSpec)

/-- ITS FALSE NEIGHBOUR: 'it returns false'. Refute it at one input. -/
def johabSetsWrong : ChangeSpec := { name := "johabSets", fn := fun _ => fun
  | [d] => { results := [.lit (.bool false)], args := [d] }
  | _ => none }
def JohabSetsWrongFalsely : Prop := johabSetsRow.holds Tryd.pinned (OpenSpec.ofChange johabSetsWrong)

/-- 'dragomanlaw19.JohabGets': WHATEVER THE INPUT: true; the input reads as it did. -/
def johabGetsSpec : ChangeSpec := { name := "johabGets", fn := fun _ => fun
  | [d] => { results := [.lit (.bool true)], args := [d] }
  | _ => none }
def johabGetsRow : OpenClaim := { program := "ytdihghjjinlaaaadoor", sum := "21c2f1703863406dacb14a9f9b545fa107fb914f5e5a17b5ced4d9ab413658b1", func := "dragoman/dragomanlaw19.JohabGets", spec := "johabGets", named := ["dragoman/johab.middles", "dragoman/johab.lasts"], apart := false, laid := [("dragoman/johab.middles", laid_dragoman_johab_middles), ("dragoman/johab.lasts", laid_dragoman_johab_lasts)] }
def JohabGetsSaid : Prop := johabGetsRow.holds Tryd.pinned (OpenSpec.ofChange johabGetsSpec)

/-- ITS FALSE NEIGHBOUR: 'it returns false'. Refute it at one input. -/
def johabGetsWrong : ChangeSpec := { name := "johabGets", fn := fun _ => fun
  | [d] => { results := [.lit (.bool false)], args := [d] }
  | _ => none }
def JohabGetsWrongFalsely : Prop := johabGetsRow.holds Tryd.pinned (OpenSpec.ofChange johabGetsWrong)

/-- 'dragomanlaw19.JohabBack': WHATEVER THE INPUT: true; the input reads as it did. -/
def johabBackSpec : ChangeSpec := { name := "johabBack", fn := fun _ => fun
  | [d1, d2] => { results := [.lit (.bool true)], args := [d1, d2] }
  | _ => none }
def johabBackRow : OpenClaim := { program := "ytdihghjjinlaaaadoor", sum := "21c2f1703863406dacb14a9f9b545fa107fb914f5e5a17b5ced4d9ab413658b1", func := "dragoman/dragomanlaw19.JohabBack", spec := "johabBack", named := ["dragoman/johab.middles", "dragoman/johab.lasts"], apart := false, laid := [("dragoman/johab.middles", laid_dragoman_johab_middles), ("dragoman/johab.lasts", laid_dragoman_johab_lasts)] }
def JohabBackSaid : Prop := johabBackRow.holds Tryd.pinned (OpenSpec.ofChange johabBackSpec)

/-- ITS FALSE NEIGHBOUR: 'it returns false'. Refute it at one input. -/
def johabBackWrong : ChangeSpec := { name := "johabBack", fn := fun _ => fun
  | [d1, d2] => { results := [.lit (.bool false)], args := [d1, d2] }
  | _ => none }
def JohabBackWrongFalsely : Prop := johabBackRow.holds Tryd.pinned (OpenSpec.ofChange johabBackWrong)

/-- 'dragomanlaw19.JohabSyllables': WHATEVER THE INPUT: true; the input reads as it did. -/
def johabSyllablesSpec : ChangeSpec := { name := "johabSyllables", fn := fun _ => fun
  | [d] => { results := [.lit (.bool true)], args := [d] }
  | _ => none }
def johabSyllablesRow : OpenClaim := { program := "ytdihghjjinlaaaadoor", sum := "21c2f1703863406dacb14a9f9b545fa107fb914f5e5a17b5ced4d9ab413658b1", func := "dragoman/dragomanlaw19.JohabSyllables", spec := "johabSyllables", named := ["dragoman/johab.middles", "dragoman/johab.lasts"], apart := false, laid := [("dragoman/johab.middles", laid_dragoman_johab_middles), ("dragoman/johab.lasts", laid_dragoman_johab_lasts)] }
def JohabSyllablesSaid : Prop := johabSyllablesRow.holds Tryd.pinned (OpenSpec.ofChange johabSyllablesSpec)

/-- ITS FALSE NEIGHBOUR: 'it returns false'. Refute it at one input. -/
def johabSyllablesWrong : ChangeSpec := { name := "johabSyllables", fn := fun _ => fun
  | [d] => { results := [.lit (.bool false)], args := [d] }
  | _ => none }
def JohabSyllablesWrongFalsely : Prop := johabSyllablesRow.holds Tryd.pinned (OpenSpec.ofChange johabSyllablesWrong)

/-- 'dragomanlaw19.JohabPlain': WHATEVER THE INPUT: true; the input reads as it did. -/
def johabPlainSpec : ChangeSpec := { name := "johabPlain", fn := fun _ => fun
  | [d1, d2] => { results := [.lit (.bool true)], args := [d1, d2] }
  | _ => none }
def johabPlainRow : OpenClaim := { program := "ytdihghjjinlaaaadoor", sum := "21c2f1703863406dacb14a9f9b545fa107fb914f5e5a17b5ced4d9ab413658b1", func := "dragoman/dragomanlaw19.JohabPlain", spec := "johabPlain", named := ["dragoman/johab.middles", "dragoman/johab.lasts"], apart := false, laid := [("dragoman/johab.middles", laid_dragoman_johab_middles), ("dragoman/johab.lasts", laid_dragoman_johab_lasts)] }
def JohabPlainSaid : Prop := johabPlainRow.holds Tryd.pinned (OpenSpec.ofChange johabPlainSpec)

/-- ITS FALSE NEIGHBOUR: 'it returns false'. Refute it at one input. -/
def johabPlainWrong : ChangeSpec := { name := "johabPlain", fn := fun _ => fun
  | [d1, d2] => { results := [.lit (.bool false)], args := [d1, d2] }
  | _ => none }
def JohabPlainWrongFalsely : Prop := johabPlainRow.holds Tryd.pinned (OpenSpec.ofChange johabPlainWrong)

/- THE SECOND FORM. 'bulk': how many values and letters a reading holds, each counted each time it is reached (what is shared counts as often as it is met; a slice's spare places count too). A statement '..UptoSaid' is the law's where the arguments, and the package variables that the reading takes, are together of bulk at most 1048576: NARROWER than '..Said'. Prove '..Said' where nothing that the law and all that it calls make is longer than what came in: it says more and counts as full. Else prove '..UptoSaid'. A law counts once. -/
mutual
def uptoBulk {H : Type} : DataW H → Nat
  | .lit (.string bytes) => bytes.length + 1
  | .lit _ => 1
  | .nil => 1
  | .ptr d => uptoBulk d + 1
  | .slice elems spare => uptoBulkAll elems + uptoBulkAll spare + 1
  | .agg parts => uptoBulkAll parts + 1
  | .iface _ d => uptoBulk d + 1
  | .map entries => uptoBulkEntries entries + 1
  | .held _ => 1
def uptoBulkAll {H : Type} : List (DataW H) → Nat
  | [] => 0
  | d :: r => uptoBulk d + uptoBulkAll r
def uptoBulkEntries {H : Type} : List (Lit × DataW H) → Nat
  | [] => 0
  | x :: r => uptoBulkEntry x + uptoBulkEntries r
def uptoBulkEntry {H : Type} : Lit × DataW H → Nat
  | (.string bytes, d) => bytes.length + uptoBulk d + 1
  | (_, d) => uptoBulk d + 1
 end
def uptoSmall : (H : Type) → List (DataW H) → Bool := fun _ ds => decide (uptoBulkAll ds ≤ 1048576)
def OpenSpec.upto (s : _root_.Go.ChangeSpec) : _root_.Go.OpenSpec := { _root_.Go.OpenSpec.ofChange s with cond := some uptoSmall }

/-- 'dragomanlaw19.JohabPacks', WHERE WHAT IT READS IS OF BULK AT MOST 1048576: true; the input reads as it did. -/
def johabPacksUptoRow : OpenClaim := { program := "ytdihghjjinlaaaadoor", sum := "21c2f1703863406dacb14a9f9b545fa107fb914f5e5a17b5ced4d9ab413658b1", func := "dragoman/dragomanlaw19.JohabPacks", spec := "johabPacks", named := ["dragoman/johab.middles", "dragoman/johab.lasts"], apart := false, laid := [("dragoman/johab.middles", laid_dragoman_johab_middles), ("dragoman/johab.lasts", laid_dragoman_johab_lasts)], narrowed := true }
def JohabPacksUptoSaid : Prop := johabPacksUptoRow.holds Tryd.pinned (OpenSpec.upto johabPacksSpec)

/-- 'dragomanlaw19.JohabSets', WHERE WHAT IT READS IS OF BULK AT MOST 1048576: true; the input reads as it did. -/
def johabSetsUptoRow : OpenClaim := { program := "ytdihghjjinlaaaadoor", sum := "21c2f1703863406dacb14a9f9b545fa107fb914f5e5a17b5ced4d9ab413658b1", func := "dragoman/dragomanlaw19.JohabSets", spec := "johabSets", named := ["dragoman/johab.middles", "dragoman/johab.lasts"], apart := false, laid := [("dragoman/johab.middles", laid_dragoman_johab_middles), ("dragoman/johab.lasts", laid_dragoman_johab_lasts)], narrowed := true }
def JohabSetsUptoSaid : Prop := johabSetsUptoRow.holds Tryd.pinned (OpenSpec.upto johabSetsSpec)

/-- 'dragomanlaw19.JohabGets', WHERE WHAT IT READS IS OF BULK AT MOST 1048576: true; the input reads as it did. -/
def johabGetsUptoRow : OpenClaim := { program := "ytdihghjjinlaaaadoor", sum := "21c2f1703863406dacb14a9f9b545fa107fb914f5e5a17b5ced4d9ab413658b1", func := "dragoman/dragomanlaw19.JohabGets", spec := "johabGets", named := ["dragoman/johab.middles", "dragoman/johab.lasts"], apart := false, laid := [("dragoman/johab.middles", laid_dragoman_johab_middles), ("dragoman/johab.lasts", laid_dragoman_johab_lasts)], narrowed := true }
def JohabGetsUptoSaid : Prop := johabGetsUptoRow.holds Tryd.pinned (OpenSpec.upto johabGetsSpec)

/-- 'dragomanlaw19.JohabBack', WHERE WHAT IT READS IS OF BULK AT MOST 1048576: true; the input reads as it did. -/
def johabBackUptoRow : OpenClaim := { program := "ytdihghjjinlaaaadoor", sum := "21c2f1703863406dacb14a9f9b545fa107fb914f5e5a17b5ced4d9ab413658b1", func := "dragoman/dragomanlaw19.JohabBack", spec := "johabBack", named := ["dragoman/johab.middles", "dragoman/johab.lasts"], apart := false, laid := [("dragoman/johab.middles", laid_dragoman_johab_middles), ("dragoman/johab.lasts", laid_dragoman_johab_lasts)], narrowed := true }
def JohabBackUptoSaid : Prop := johabBackUptoRow.holds Tryd.pinned (OpenSpec.upto johabBackSpec)

/-- 'dragomanlaw19.JohabSyllables', WHERE WHAT IT READS IS OF BULK AT MOST 1048576: true; the input reads as it did. -/
def johabSyllablesUptoRow : OpenClaim := { program := "ytdihghjjinlaaaadoor", sum := "21c2f1703863406dacb14a9f9b545fa107fb914f5e5a17b5ced4d9ab413658b1", func := "dragoman/dragomanlaw19.JohabSyllables", spec := "johabSyllables", named := ["dragoman/johab.middles", "dragoman/johab.lasts"], apart := false, laid := [("dragoman/johab.middles", laid_dragoman_johab_middles), ("dragoman/johab.lasts", laid_dragoman_johab_lasts)], narrowed := true }
def JohabSyllablesUptoSaid : Prop := johabSyllablesUptoRow.holds Tryd.pinned (OpenSpec.upto johabSyllablesSpec)

/-- 'dragomanlaw19.JohabPlain', WHERE WHAT IT READS IS OF BULK AT MOST 1048576: true; the input reads as it did. -/
def johabPlainUptoRow : OpenClaim := { program := "ytdihghjjinlaaaadoor", sum := "21c2f1703863406dacb14a9f9b545fa107fb914f5e5a17b5ced4d9ab413658b1", func := "dragoman/dragomanlaw19.JohabPlain", spec := "johabPlain", named := ["dragoman/johab.middles", "dragoman/johab.lasts"], apart := false, laid := [("dragoman/johab.middles", laid_dragoman_johab_middles), ("dragoman/johab.lasts", laid_dragoman_johab_lasts)], narrowed := true }
def JohabPlainUptoSaid : Prop := johabPlainUptoRow.holds Tryd.pinned (OpenSpec.upto johabPlainSpec)

end Rows
end Go.Proofs.YtdihghjjinlaaaaDoor
