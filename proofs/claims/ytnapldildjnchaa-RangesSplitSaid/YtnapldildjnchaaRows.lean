/-
  No cell of these rows narrows 'for every input' (looked for: loops, veiled, ifaces, maps, wideKeys, modest, calm, conditions, laid).
  DERIVED. THE GIVEN ROWS OF THIS SEAT. 5 by the template 'for every input the law returns true; each argument reads behind the call as it read before'; 0 by the template 'total and deterministic' (their statements: YtnapldildjnchaaTotals.lean).
  GIVEN WITH THE SEED: the statements are not yours to turn. If you find one false, say at which input.
  Laid BY PROGRAM, IN A SANDBOX (cutbox-rows.mjs): the forced cells as the released guide's own fill.sh prints them over the translation 0f57033b6104edd8… (all of the seat's roots in one cut). By AI agents, Wed Nov 11 2026. No macro, syntax, notation, axiom, sorry.
-/
import Derived.Test.YtnapldildjnchaaChecked
import GoSem.Claim
import GoSem.ClaimJoined
import GoSem.ClaimMapViews
import Derived.JoinedTies
import Derived.KernelRfl
namespace Go.Proofs.Ytnapldildjnchaa
/- THE CELL 'sum', in the pinned program and in every row, IS THE sha256 OF THE DUMP (.gsa) THAT YtnapldildjnchaaProg.lean LOADS. Nothing in Lean hashes anything: it is a label: what it is worth is what the hold of that sum in a sandbox is worth. -/
noncomputable def Try.pinned : Pinned := { name := "ytnapldildjnchaa", sum := "0f57033b6104edd8a5f0cae1ddb86e045839e524c01e74ea7ef8b6f68c7c9a0c", checked := Try.checked }
namespace Rows
def none {H : Type} : Left H := { results := [], args := [] }

/-- 'dragomanlaw06.RangesPacks': WHATEVER THE INPUT: true; the input reads as it did. -/
def rangesPacksSpec : ChangeSpec := { name := "rangesPacks", fn := fun _ => fun
  | [d] => { results := [.lit (.bool true)], args := [d] }
  | _ => none }
def rangesPacksRow : OpenClaim := { program := "ytnapldildjnchaa", sum := "0f57033b6104edd8a5f0cae1ddb86e045839e524c01e74ea7ef8b6f68c7c9a0c", func := "dragoman/dragomanlaw06.RangesPacks", spec := "rangesPacks", apart := false }
def RangesPacksSaid : Prop := rangesPacksRow.holds Try.pinned (OpenSpec.ofChange rangesPacksSpec)

/-- ITS FALSE NEIGHBOUR: 'it returns false'. Refute it at one input. -/
def rangesPacksWrong : ChangeSpec := { name := "rangesPacks", fn := fun _ => fun
  | [d] => { results := [.lit (.bool false)], args := [d] }
  | _ => none }
def RangesPacksWrongFalsely : Prop := rangesPacksRow.holds Try.pinned (OpenSpec.ofChange rangesPacksWrong)

/-- 'dragomanlaw06.RangesTells': WHATEVER THE INPUT: true; the input reads as it did. -/
def rangesTellsSpec : ChangeSpec := { name := "rangesTells", fn := fun _ => fun
  | [d1, d2, d3] => { results := [.lit (.bool true)], args := [d1, d2, d3] }
  | _ => none }
def rangesTellsRow : OpenClaim := { program := "ytnapldildjnchaa", sum := "0f57033b6104edd8a5f0cae1ddb86e045839e524c01e74ea7ef8b6f68c7c9a0c", func := "dragoman/dragomanlaw06.RangesTells", spec := "rangesTells", unfollowed := true, recurses := true, apart := false }
def RangesTellsSaid : Prop := rangesTellsRow.holds Try.pinned (OpenSpec.ofChange rangesTellsSpec)

/-- ITS FALSE NEIGHBOUR: 'it returns false'. Refute it at one input. -/
def rangesTellsWrong : ChangeSpec := { name := "rangesTells", fn := fun _ => fun
  | [d1, d2, d3] => { results := [.lit (.bool false)], args := [d1, d2, d3] }
  | _ => none }
def RangesTellsWrongFalsely : Prop := rangesTellsRow.holds Try.pinned (OpenSpec.ofChange rangesTellsWrong)

/-- 'dragomanlaw06.RangesBack': WHATEVER THE INPUT: true; the input reads as it did. -/
def rangesBackSpec : ChangeSpec := { name := "rangesBack", fn := fun _ => fun
  | [d1, d2] => { results := [.lit (.bool true)], args := [d1, d2] }
  | _ => none }
def rangesBackRow : OpenClaim := { program := "ytnapldildjnchaa", sum := "0f57033b6104edd8a5f0cae1ddb86e045839e524c01e74ea7ef8b6f68c7c9a0c", func := "dragoman/dragomanlaw06.RangesBack", spec := "rangesBack", unfollowed := true, recurses := true, apart := false }
def RangesBackSaid : Prop := rangesBackRow.holds Try.pinned (OpenSpec.ofChange rangesBackSpec)

/-- ITS FALSE NEIGHBOUR: 'it returns false'. Refute it at one input. -/
def rangesBackWrong : ChangeSpec := { name := "rangesBack", fn := fun _ => fun
  | [d1, d2] => { results := [.lit (.bool false)], args := [d1, d2] }
  | _ => none }
def RangesBackWrongFalsely : Prop := rangesBackRow.holds Try.pinned (OpenSpec.ofChange rangesBackWrong)

/-- 'dragomanlaw06.RangesOne': WHATEVER THE INPUT: true; the input reads as it did. -/
def rangesOneSpec : ChangeSpec := { name := "rangesOne", fn := fun _ => fun
  | [d1, d2] => { results := [.lit (.bool true)], args := [d1, d2] }
  | _ => none }
def rangesOneRow : OpenClaim := { program := "ytnapldildjnchaa", sum := "0f57033b6104edd8a5f0cae1ddb86e045839e524c01e74ea7ef8b6f68c7c9a0c", func := "dragoman/dragomanlaw06.RangesOne", spec := "rangesOne", unfollowed := true, recurses := true, apart := false }
def RangesOneSaid : Prop := rangesOneRow.holds Try.pinned (OpenSpec.ofChange rangesOneSpec)

/-- ITS FALSE NEIGHBOUR: 'it returns false'. Refute it at one input. -/
def rangesOneWrong : ChangeSpec := { name := "rangesOne", fn := fun _ => fun
  | [d1, d2] => { results := [.lit (.bool false)], args := [d1, d2] }
  | _ => none }
def RangesOneWrongFalsely : Prop := rangesOneRow.holds Try.pinned (OpenSpec.ofChange rangesOneWrong)

/-- 'dragomanlaw06.RangesSplit': WHATEVER THE INPUT: true; the input reads as it did. -/
def rangesSplitSpec : ChangeSpec := { name := "rangesSplit", fn := fun _ => fun
  | [d1, d2, d3] => { results := [.lit (.bool true)], args := [d1, d2, d3] }
  | _ => none }
def rangesSplitRow : OpenClaim := { program := "ytnapldildjnchaa", sum := "0f57033b6104edd8a5f0cae1ddb86e045839e524c01e74ea7ef8b6f68c7c9a0c", func := "dragoman/dragomanlaw06.RangesSplit", spec := "rangesSplit", unfollowed := true, recurses := true, apart := false }
def RangesSplitSaid : Prop := rangesSplitRow.holds Try.pinned (OpenSpec.ofChange rangesSplitSpec)

/-- ITS FALSE NEIGHBOUR: 'it returns false'. Refute it at one input. -/
def rangesSplitWrong : ChangeSpec := { name := "rangesSplit", fn := fun _ => fun
  | [d1, d2, d3] => { results := [.lit (.bool false)], args := [d1, d2, d3] }
  | _ => none }
def RangesSplitWrongFalsely : Prop := rangesSplitRow.holds Try.pinned (OpenSpec.ofChange rangesSplitWrong)

/- THE SECOND FORM. 'bulk': how many values and letters a reading holds, each counted each time it is reached (what is shared counts as often as it is met; a slice's spare places count too). A statement '..UptoSaid' is the law's where the arguments, and the package variables that the reading takes, are together of bulk at most 1048576: NARROWER than '..Said'. Prove '..Said' where nothing that the law and all that it calls make is longer than what came in: it says more and counts as full. Else prove '..UptoSaid'. A law counts once. -/
mutual
def uptoBulk {H : Type} : DataW H → Nat
  | .lit (.string bytes) => bytes.length + 1
  | .lit _ => 1
  | .nil => 1
  | .ptr d => uptoBulk d + 1
  | .slice elems spare => uptoBulkAll elems + uptoBulkAll spare + 1
  | .agg parts => uptoBulkAll parts + 1
  | .iface _ d => uptoBulk d + 1
  | .map entries => uptoBulkEntries entries + 1
  | .held _ => 1
def uptoBulkAll {H : Type} : List (DataW H) → Nat
  | [] => 0
  | d :: r => uptoBulk d + uptoBulkAll r
def uptoBulkEntries {H : Type} : List (Lit × DataW H) → Nat
  | [] => 0
  | x :: r => uptoBulkEntry x + uptoBulkEntries r
def uptoBulkEntry {H : Type} : Lit × DataW H → Nat
  | (.string bytes, d) => bytes.length + uptoBulk d + 1
  | (_, d) => uptoBulk d + 1
 end
def uptoSmall : (H : Type) → List (DataW H) → Bool := fun _ ds => decide (uptoBulkAll ds ≤ 1048576)
def OpenSpec.upto (s : _root_.Go.ChangeSpec) : _root_.Go.OpenSpec := { _root_.Go.OpenSpec.ofChange s with cond := some uptoSmall }

/-- 'dragomanlaw06.RangesPacks', WHERE WHAT IT READS IS OF BULK AT MOST 1048576: true; the input reads as it did. -/
def rangesPacksUptoRow : OpenClaim := { program := "ytnapldildjnchaa", sum := "0f57033b6104edd8a5f0cae1ddb86e045839e524c01e74ea7ef8b6f68c7c9a0c", func := "dragoman/dragomanlaw06.RangesPacks", spec := "rangesPacks", apart := false, narrowed := true }
def RangesPacksUptoSaid : Prop := rangesPacksUptoRow.holds Try.pinned (OpenSpec.upto rangesPacksSpec)

/-- 'dragomanlaw06.RangesTells', WHERE WHAT IT READS IS OF BULK AT MOST 1048576: true; the input reads as it did. -/
def rangesTellsUptoRow : OpenClaim := { program := "ytnapldildjnchaa", sum := "0f57033b6104edd8a5f0cae1ddb86e045839e524c01e74ea7ef8b6f68c7c9a0c", func := "dragoman/dragomanlaw06.RangesTells", spec := "rangesTells", unfollowed := true, recurses := true, apart := false, narrowed := true }
def RangesTellsUptoSaid : Prop := rangesTellsUptoRow.holds Try.pinned (OpenSpec.upto rangesTellsSpec)

/-- 'dragomanlaw06.RangesBack', WHERE WHAT IT READS IS OF BULK AT MOST 1048576: true; the input reads as it did. -/
def rangesBackUptoRow : OpenClaim := { program := "ytnapldildjnchaa", sum := "0f57033b6104edd8a5f0cae1ddb86e045839e524c01e74ea7ef8b6f68c7c9a0c", func := "dragoman/dragomanlaw06.RangesBack", spec := "rangesBack", unfollowed := true, recurses := true, apart := false, narrowed := true }
def RangesBackUptoSaid : Prop := rangesBackUptoRow.holds Try.pinned (OpenSpec.upto rangesBackSpec)

/-- 'dragomanlaw06.RangesOne', WHERE WHAT IT READS IS OF BULK AT MOST 1048576: true; the input reads as it did. -/
def rangesOneUptoRow : OpenClaim := { program := "ytnapldildjnchaa", sum := "0f57033b6104edd8a5f0cae1ddb86e045839e524c01e74ea7ef8b6f68c7c9a0c", func := "dragoman/dragomanlaw06.RangesOne", spec := "rangesOne", unfollowed := true, recurses := true, apart := false, narrowed := true }
def RangesOneUptoSaid : Prop := rangesOneUptoRow.holds Try.pinned (OpenSpec.upto rangesOneSpec)

/-- 'dragomanlaw06.RangesSplit', WHERE WHAT IT READS IS OF BULK AT MOST 1048576: true; the input reads as it did. -/
def rangesSplitUptoRow : OpenClaim := { program := "ytnapldildjnchaa", sum := "0f57033b6104edd8a5f0cae1ddb86e045839e524c01e74ea7ef8b6f68c7c9a0c", func := "dragoman/dragomanlaw06.RangesSplit", spec := "rangesSplit", unfollowed := true, recurses := true, apart := false, narrowed := true }
def RangesSplitUptoSaid : Prop := rangesSplitUptoRow.holds Try.pinned (OpenSpec.upto rangesSplitSpec)

end Rows
end Go.Proofs.Ytnapldildjnchaa
