/-
  No cell of these rows narrows 'for every input' (looked for: loops, veiled, ifaces, maps, wideKeys, modest, calm, conditions, laid).
  DERIVED. THE GIVEN ROWS OF THIS SEAT. 8 by the template 'for every input the law returns true; each argument reads behind the call as it read before'; 0 by the template 'total and deterministic' (their statements: YtaogccmbdmheeaaTotals.lean).
  GIVEN WITH THE SEED: the statements are not yours to turn. If you find one false, say at which input.
  Laid BY PROGRAM, IN A SANDBOX (cutbox-rows.mjs): the forced cells as the released guide's own fill.sh prints them over the translation 5533290c74bcbf6f… (all of the seat's roots in one cut). By AI agents, Wed Nov 11 2026. No macro, syntax, notation, axiom, sorry.
-/
import Derived.Test.YtaogccmbdmheeaaChecked
import GoSem.Claim
import GoSem.ClaimJoined
import GoSem.ClaimMapViews
import Derived.JoinedTies
import Derived.KernelRfl
namespace Go.Proofs.Ytaogccmbdmheeaa
/- THE CELL 'sum', in the pinned program and in every row, IS THE sha256 OF THE DUMP (.gsa) THAT YtaogccmbdmheeaaProg.lean LOADS. Nothing in Lean hashes anything: it is a label: what it is worth is what the hold of that sum in a sandbox is worth. -/
noncomputable def Try.pinned : Pinned := { name := "ytaogccmbdmheeaa", sum := "5533290c74bcbf6f483fabe5617dfd19741148a0d4d1a21300f5627b0c8c964d", checked := Try.checked }
namespace Rows
def none {H : Type} : Left H := { results := [], args := [] }

/-- 'dragomanlaw03.Utf8Sets': WHATEVER THE INPUT: true; the input reads as it did. -/
def utf8SetsSpec : ChangeSpec := { name := "utf8Sets", fn := fun _ => fun
  | [d] => { results := [.lit (.bool true)], args := [d] }
  | _ => none }
def utf8SetsRow : OpenClaim := { program := "ytaogccmbdmheeaa", sum := "5533290c74bcbf6f483fabe5617dfd19741148a0d4d1a21300f5627b0c8c964d", func := "dragoman/dragomanlaw03.Utf8Sets", spec := "utf8Sets", apart := false }
def Utf8SetsSaid : Prop := utf8SetsRow.holds Try.pinned (OpenSpec.ofChange utf8SetsSpec)

/-- ITS FALSE NEIGHBOUR: 'it returns false'. Refute it at one input. -/
def utf8SetsWrong : ChangeSpec := { name := "utf8Sets", fn := fun _ => fun
  | [d] => { results := [.lit (.bool false)], args := [d] }
  | _ => none }
def Utf8SetsWrongFalsely : Prop := utf8SetsRow.holds Try.pinned (OpenSpec.ofChange utf8SetsWrong)

/-- 'dragomanlaw03.Utf8Gets': WHATEVER THE INPUT: true; the input reads as it did. -/
def utf8GetsSpec : ChangeSpec := { name := "utf8Gets", fn := fun _ => fun
  | [d] => { results := [.lit (.bool true)], args := [d] }
  | _ => none }
def utf8GetsRow : OpenClaim := { program := "ytaogccmbdmheeaa", sum := "5533290c74bcbf6f483fabe5617dfd19741148a0d4d1a21300f5627b0c8c964d", func := "dragoman/dragomanlaw03.Utf8Gets", spec := "utf8Gets", apart := false }
def Utf8GetsSaid : Prop := utf8GetsRow.holds Try.pinned (OpenSpec.ofChange utf8GetsSpec)

/-- ITS FALSE NEIGHBOUR: 'it returns false'. Refute it at one input. -/
def utf8GetsWrong : ChangeSpec := { name := "utf8Gets", fn := fun _ => fun
  | [d] => { results := [.lit (.bool false)], args := [d] }
  | _ => none }
def Utf8GetsWrongFalsely : Prop := utf8GetsRow.holds Try.pinned (OpenSpec.ofChange utf8GetsWrong)

/-- 'dragomanlaw03.Utf8Reads': WHATEVER THE INPUT: true; the input reads as it did. -/
def utf8ReadsSpec : ChangeSpec := { name := "utf8Reads", fn := fun _ => fun
  | [d] => { results := [.lit (.bool true)], args := [d] }
  | _ => none }
def utf8ReadsRow : OpenClaim := { program := "ytaogccmbdmheeaa", sum := "5533290c74bcbf6f483fabe5617dfd19741148a0d4d1a21300f5627b0c8c964d", func := "dragoman/dragomanlaw03.Utf8Reads", spec := "utf8Reads", apart := false }
def Utf8ReadsSaid : Prop := utf8ReadsRow.holds Try.pinned (OpenSpec.ofChange utf8ReadsSpec)

/-- ITS FALSE NEIGHBOUR: 'it returns false'. Refute it at one input. -/
def utf8ReadsWrong : ChangeSpec := { name := "utf8Reads", fn := fun _ => fun
  | [d] => { results := [.lit (.bool false)], args := [d] }
  | _ => none }
def Utf8ReadsWrongFalsely : Prop := utf8ReadsRow.holds Try.pinned (OpenSpec.ofChange utf8ReadsWrong)

/-- 'dragomanlaw03.Utf8Back': WHATEVER THE INPUT: true; the input reads as it did. -/
def utf8BackSpec : ChangeSpec := { name := "utf8Back", fn := fun _ => fun
  | [d1, d2] => { results := [.lit (.bool true)], args := [d1, d2] }
  | _ => none }
def utf8BackRow : OpenClaim := { program := "ytaogccmbdmheeaa", sum := "5533290c74bcbf6f483fabe5617dfd19741148a0d4d1a21300f5627b0c8c964d", func := "dragoman/dragomanlaw03.Utf8Back", spec := "utf8Back", apart := false }
def Utf8BackSaid : Prop := utf8BackRow.holds Try.pinned (OpenSpec.ofChange utf8BackSpec)

/-- ITS FALSE NEIGHBOUR: 'it returns false'. Refute it at one input. -/
def utf8BackWrong : ChangeSpec := { name := "utf8Back", fn := fun _ => fun
  | [d1, d2] => { results := [.lit (.bool false)], args := [d1, d2] }
  | _ => none }
def Utf8BackWrongFalsely : Prop := utf8BackRow.holds Try.pinned (OpenSpec.ofChange utf8BackWrong)

/-- 'dragomanlaw03.Utf8Passes': WHATEVER THE INPUT: true; the input reads as it did. -/
def utf8PassesSpec : ChangeSpec := { name := "utf8Passes", fn := fun _ => fun
  | [d1, d2] => { results := [.lit (.bool true)], args := [d1, d2] }
  | _ => none }
def utf8PassesRow : OpenClaim := { program := "ytaogccmbdmheeaa", sum := "5533290c74bcbf6f483fabe5617dfd19741148a0d4d1a21300f5627b0c8c964d", func := "dragoman/dragomanlaw03.Utf8Passes", spec := "utf8Passes", apart := false }
def Utf8PassesSaid : Prop := utf8PassesRow.holds Try.pinned (OpenSpec.ofChange utf8PassesSpec)

/-- ITS FALSE NEIGHBOUR: 'it returns false'. Refute it at one input. -/
def utf8PassesWrong : ChangeSpec := { name := "utf8Passes", fn := fun _ => fun
  | [d1, d2] => { results := [.lit (.bool false)], args := [d1, d2] }
  | _ => none }
def Utf8PassesWrongFalsely : Prop := utf8PassesRow.holds Try.pinned (OpenSpec.ofChange utf8PassesWrong)

/-- 'dragomanlaw03.Utf8Order': WHATEVER THE INPUT: true; the input reads as it did. -/
def utf8OrderSpec : ChangeSpec := { name := "utf8Order", fn := fun _ => fun
  | [d1, d2] => { results := [.lit (.bool true)], args := [d1, d2] }
  | _ => none }
def utf8OrderRow : OpenClaim := { program := "ytaogccmbdmheeaa", sum := "5533290c74bcbf6f483fabe5617dfd19741148a0d4d1a21300f5627b0c8c964d", func := "dragoman/dragomanlaw03.Utf8Order", spec := "utf8Order", apart := false }
def Utf8OrderSaid : Prop := utf8OrderRow.holds Try.pinned (OpenSpec.ofChange utf8OrderSpec)

/-- ITS FALSE NEIGHBOUR: 'it returns false'. Refute it at one input. -/
def utf8OrderWrong : ChangeSpec := { name := "utf8Order", fn := fun _ => fun
  | [d1, d2] => { results := [.lit (.bool false)], args := [d1, d2] }
  | _ => none }
def Utf8OrderWrongFalsely : Prop := utf8OrderRow.holds Try.pinned (OpenSpec.ofChange utf8OrderWrong)

/-- 'dragomanlaw03.Utf8Cuts': WHATEVER THE INPUT: true; the input reads as it did. -/
def utf8CutsSpec : ChangeSpec := { name := "utf8Cuts", fn := fun _ => fun
  | [d1, d2] => { results := [.lit (.bool true)], args := [d1, d2] }
  | _ => none }
def utf8CutsRow : OpenClaim := { program := "ytaogccmbdmheeaa", sum := "5533290c74bcbf6f483fabe5617dfd19741148a0d4d1a21300f5627b0c8c964d", func := "dragoman/dragomanlaw03.Utf8Cuts", spec := "utf8Cuts", apart := false }
def Utf8CutsSaid : Prop := utf8CutsRow.holds Try.pinned (OpenSpec.ofChange utf8CutsSpec)

/-- ITS FALSE NEIGHBOUR: 'it returns false'. Refute it at one input. -/
def utf8CutsWrong : ChangeSpec := { name := "utf8Cuts", fn := fun _ => fun
  | [d1, d2] => { results := [.lit (.bool false)], args := [d1, d2] }
  | _ => none }
def Utf8CutsWrongFalsely : Prop := utf8CutsRow.holds Try.pinned (OpenSpec.ofChange utf8CutsWrong)

/-- 'dragomanlaw03.Utf8Sync': WHATEVER THE INPUT: true; the input reads as it did. -/
def utf8SyncSpec : ChangeSpec := { name := "utf8Sync", fn := fun _ => fun
  | [d1, d2, d3] => { results := [.lit (.bool true)], args := [d1, d2, d3] }
  | _ => none }
def utf8SyncRow : OpenClaim := { program := "ytaogccmbdmheeaa", sum := "5533290c74bcbf6f483fabe5617dfd19741148a0d4d1a21300f5627b0c8c964d", func := "dragoman/dragomanlaw03.Utf8Sync", spec := "utf8Sync", apart := false }
def Utf8SyncSaid : Prop := utf8SyncRow.holds Try.pinned (OpenSpec.ofChange utf8SyncSpec)

/-- ITS FALSE NEIGHBOUR: 'it returns false'. Refute it at one input. -/
def utf8SyncWrong : ChangeSpec := { name := "utf8Sync", fn := fun _ => fun
  | [d1, d2, d3] => { results := [.lit (.bool false)], args := [d1, d2, d3] }
  | _ => none }
def Utf8SyncWrongFalsely : Prop := utf8SyncRow.holds Try.pinned (OpenSpec.ofChange utf8SyncWrong)

/- THE SECOND FORM. 'bulk': how many values and letters a reading holds, each counted each time it is reached (what is shared counts as often as it is met; a slice's spare places count too). A statement '..UptoSaid' is the law's where the arguments, and the package variables that the reading takes, are together of bulk at most 1048576: NARROWER than '..Said'. Prove '..Said' where nothing that the law and all that it calls make is longer than what came in: it says more and counts as full. Else prove '..UptoSaid'. A law counts once. -/
mutual
def uptoBulk {H : Type} : DataW H → Nat
  | .lit (.string bytes) => bytes.length + 1
  | .lit _ => 1
  | .nil => 1
  | .ptr d => uptoBulk d + 1
  | .slice elems spare => uptoBulkAll elems + uptoBulkAll spare + 1
  | .agg parts => uptoBulkAll parts + 1
  | .iface _ d => uptoBulk d + 1
  | .map entries => uptoBulkEntries entries + 1
  | .held _ => 1
def uptoBulkAll {H : Type} : List (DataW H) → Nat
  | [] => 0
  | d :: r => uptoBulk d + uptoBulkAll r
def uptoBulkEntries {H : Type} : List (Lit × DataW H) → Nat
  | [] => 0
  | x :: r => uptoBulkEntry x + uptoBulkEntries r
def uptoBulkEntry {H : Type} : Lit × DataW H → Nat
  | (.string bytes, d) => bytes.length + uptoBulk d + 1
  | (_, d) => uptoBulk d + 1
 end
def uptoSmall : (H : Type) → List (DataW H) → Bool := fun _ ds => decide (uptoBulkAll ds ≤ 1048576)
def OpenSpec.upto (s : _root_.Go.ChangeSpec) : _root_.Go.OpenSpec := { _root_.Go.OpenSpec.ofChange s with cond := some uptoSmall }

/-- 'dragomanlaw03.Utf8Sets', WHERE WHAT IT READS IS OF BULK AT MOST 1048576: true; the input reads as it did. -/
def utf8SetsUptoRow : OpenClaim := { program := "ytaogccmbdmheeaa", sum := "5533290c74bcbf6f483fabe5617dfd19741148a0d4d1a21300f5627b0c8c964d", func := "dragoman/dragomanlaw03.Utf8Sets", spec := "utf8Sets", apart := false, narrowed := true }
def Utf8SetsUptoSaid : Prop := utf8SetsUptoRow.holds Try.pinned (OpenSpec.upto utf8SetsSpec)

/-- 'dragomanlaw03.Utf8Gets', WHERE WHAT IT READS IS OF BULK AT MOST 1048576: true; the input reads as it did. -/
def utf8GetsUptoRow : OpenClaim := { program := "ytaogccmbdmheeaa", sum := "5533290c74bcbf6f483fabe5617dfd19741148a0d4d1a21300f5627b0c8c964d", func := "dragoman/dragomanlaw03.Utf8Gets", spec := "utf8Gets", apart := false, narrowed := true }
def Utf8GetsUptoSaid : Prop := utf8GetsUptoRow.holds Try.pinned (OpenSpec.upto utf8GetsSpec)

/-- 'dragomanlaw03.Utf8Reads', WHERE WHAT IT READS IS OF BULK AT MOST 1048576: true; the input reads as it did. -/
def utf8ReadsUptoRow : OpenClaim := { program := "ytaogccmbdmheeaa", sum := "5533290c74bcbf6f483fabe5617dfd19741148a0d4d1a21300f5627b0c8c964d", func := "dragoman/dragomanlaw03.Utf8Reads", spec := "utf8Reads", apart := false, narrowed := true }
def Utf8ReadsUptoSaid : Prop := utf8ReadsUptoRow.holds Try.pinned (OpenSpec.upto utf8ReadsSpec)

/-- 'dragomanlaw03.Utf8Back', WHERE WHAT IT READS IS OF BULK AT MOST 1048576: true; the input reads as it did. -/
def utf8BackUptoRow : OpenClaim := { program := "ytaogccmbdmheeaa", sum := "5533290c74bcbf6f483fabe5617dfd19741148a0d4d1a21300f5627b0c8c964d", func := "dragoman/dragomanlaw03.Utf8Back", spec := "utf8Back", apart := false, narrowed := true }
def Utf8BackUptoSaid : Prop := utf8BackUptoRow.holds Try.pinned (OpenSpec.upto utf8BackSpec)

/-- 'dragomanlaw03.Utf8Passes', WHERE WHAT IT READS IS OF BULK AT MOST 1048576: true; the input reads as it did. -/
def utf8PassesUptoRow : OpenClaim := { program := "ytaogccmbdmheeaa", sum := "5533290c74bcbf6f483fabe5617dfd19741148a0d4d1a21300f5627b0c8c964d", func := "dragoman/dragomanlaw03.Utf8Passes", spec := "utf8Passes", apart := false, narrowed := true }
def Utf8PassesUptoSaid : Prop := utf8PassesUptoRow.holds Try.pinned (OpenSpec.upto utf8PassesSpec)

/-- 'dragomanlaw03.Utf8Order', WHERE WHAT IT READS IS OF BULK AT MOST 1048576: true; the input reads as it did. -/
def utf8OrderUptoRow : OpenClaim := { program := "ytaogccmbdmheeaa", sum := "5533290c74bcbf6f483fabe5617dfd19741148a0d4d1a21300f5627b0c8c964d", func := "dragoman/dragomanlaw03.Utf8Order", spec := "utf8Order", apart := false, narrowed := true }
def Utf8OrderUptoSaid : Prop := utf8OrderUptoRow.holds Try.pinned (OpenSpec.upto utf8OrderSpec)

/-- 'dragomanlaw03.Utf8Cuts', WHERE WHAT IT READS IS OF BULK AT MOST 1048576: true; the input reads as it did. -/
def utf8CutsUptoRow : OpenClaim := { program := "ytaogccmbdmheeaa", sum := "5533290c74bcbf6f483fabe5617dfd19741148a0d4d1a21300f5627b0c8c964d", func := "dragoman/dragomanlaw03.Utf8Cuts", spec := "utf8Cuts", apart := false, narrowed := true }
def Utf8CutsUptoSaid : Prop := utf8CutsUptoRow.holds Try.pinned (OpenSpec.upto utf8CutsSpec)

/-- 'dragomanlaw03.Utf8Sync', WHERE WHAT IT READS IS OF BULK AT MOST 1048576: true; the input reads as it did. -/
def utf8SyncUptoRow : OpenClaim := { program := "ytaogccmbdmheeaa", sum := "5533290c74bcbf6f483fabe5617dfd19741148a0d4d1a21300f5627b0c8c964d", func := "dragoman/dragomanlaw03.Utf8Sync", spec := "utf8Sync", apart := false, narrowed := true }
def Utf8SyncUptoSaid : Prop := utf8SyncUptoRow.holds Try.pinned (OpenSpec.upto utf8SyncSpec)

end Rows
end Go.Proofs.Ytaogccmbdmheeaa
