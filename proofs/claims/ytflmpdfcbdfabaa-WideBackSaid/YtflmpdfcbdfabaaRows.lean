/-
  No cell of these rows narrows 'for every input' (looked for: loops, veiled, ifaces, maps, wideKeys, modest, calm, conditions, laid).
  DERIVED. THE GIVEN ROWS OF THIS SEAT. 6 by the template 'for every input the law returns true; each argument reads behind the call as it read before'; 0 by the template 'total and deterministic' (their statements: YtflmpdfcbdfabaaTotals.lean).
  GIVEN WITH THE SEED: the statements are not yours to turn. If you find one false, say at which input.
  Laid BY PROGRAM, IN A SANDBOX (cutbox-rows.mjs): the forced cells as the released guide's own fill.sh prints them over the translation c0284defed4a657e… (all of the seat's roots in one cut). By AI agents, Wed Nov 11 2026. No macro, syntax, notation, axiom, sorry.
-/
import Derived.Test.YtflmpdfcbdfabaaChecked
import GoSem.Claim
import GoSem.ClaimJoined
import GoSem.ClaimMapViews
import Derived.JoinedTies
import Derived.KernelRfl
namespace Go.Proofs.Ytflmpdfcbdfabaa
/- THE CELL 'sum', in the pinned program and in every row, IS THE sha256 OF THE DUMP (.gsa) THAT YtflmpdfcbdfabaaProg.lean LOADS. Nothing in Lean hashes anything: it is a label: what it is worth is what the hold of that sum in a sandbox is worth. -/
noncomputable def Try.pinned : Pinned := { name := "ytflmpdfcbdfabaa", sum := "c0284defed4a657ec6092c34d1fb93ca534efe91dca78e4e22610c9e4b1f467d", checked := Try.checked }
namespace Rows
def none {H : Type} : Left H := { results := [], args := [] }

/-- 'dragomanlaw04.WideSets': WHATEVER THE INPUT: true; the input reads as it did. -/
def wideSetsSpec : ChangeSpec := { name := "wideSets", fn := fun _ => fun
  | [d1, d2, d3] => { results := [.lit (.bool true)], args := [d1, d2, d3] }
  | _ => none }
def wideSetsRow : OpenClaim := { program := "ytflmpdfcbdfabaa", sum := "c0284defed4a657ec6092c34d1fb93ca534efe91dca78e4e22610c9e4b1f467d", func := "dragoman/dragomanlaw04.WideSets", spec := "wideSets", unfollowed := true, recurses := true, apart := false }
def WideSetsSaid : Prop := wideSetsRow.holds Try.pinned (OpenSpec.ofChange wideSetsSpec)

/-- ITS FALSE NEIGHBOUR: 'it returns false'. Refute it at one input. -/
def wideSetsWrong : ChangeSpec := { name := "wideSets", fn := fun _ => fun
  | [d1, d2, d3] => { results := [.lit (.bool false)], args := [d1, d2, d3] }
  | _ => none }
def WideSetsWrongFalsely : Prop := wideSetsRow.holds Try.pinned (OpenSpec.ofChange wideSetsWrong)

/-- 'dragomanlaw04.WideGets': WHATEVER THE INPUT: true; the input reads as it did. -/
def wideGetsSpec : ChangeSpec := { name := "wideGets", fn := fun _ => fun
  | [d1, d2, d3] => { results := [.lit (.bool true)], args := [d1, d2, d3] }
  | _ => none }
def wideGetsRow : OpenClaim := { program := "ytflmpdfcbdfabaa", sum := "c0284defed4a657ec6092c34d1fb93ca534efe91dca78e4e22610c9e4b1f467d", func := "dragoman/dragomanlaw04.WideGets", spec := "wideGets", unfollowed := true, recurses := true, apart := false }
def WideGetsSaid : Prop := wideGetsRow.holds Try.pinned (OpenSpec.ofChange wideGetsSpec)

/-- ITS FALSE NEIGHBOUR: 'it returns false'. Refute it at one input. -/
def wideGetsWrong : ChangeSpec := { name := "wideGets", fn := fun _ => fun
  | [d1, d2, d3] => { results := [.lit (.bool false)], args := [d1, d2, d3] }
  | _ => none }
def WideGetsWrongFalsely : Prop := wideGetsRow.holds Try.pinned (OpenSpec.ofChange wideGetsWrong)

/-- 'dragomanlaw04.WideBack': WHATEVER THE INPUT: true; the input reads as it did. -/
def wideBackSpec : ChangeSpec := { name := "wideBack", fn := fun _ => fun
  | [d1, d2, d3, d4] => { results := [.lit (.bool true)], args := [d1, d2, d3, d4] }
  | _ => none }
def wideBackRow : OpenClaim := { program := "ytflmpdfcbdfabaa", sum := "c0284defed4a657ec6092c34d1fb93ca534efe91dca78e4e22610c9e4b1f467d", func := "dragoman/dragomanlaw04.WideBack", spec := "wideBack", unfollowed := true, recurses := true, apart := false }
def WideBackSaid : Prop := wideBackRow.holds Try.pinned (OpenSpec.ofChange wideBackSpec)

/-- ITS FALSE NEIGHBOUR: 'it returns false'. Refute it at one input. -/
def wideBackWrong : ChangeSpec := { name := "wideBack", fn := fun _ => fun
  | [d1, d2, d3, d4] => { results := [.lit (.bool false)], args := [d1, d2, d3, d4] }
  | _ => none }
def WideBackWrongFalsely : Prop := wideBackRow.holds Try.pinned (OpenSpec.ofChange wideBackWrong)

/-- 'dragomanlaw04.WideTurned': WHATEVER THE INPUT: true; the input reads as it did. -/
def wideTurnedSpec : ChangeSpec := { name := "wideTurned", fn := fun _ => fun
  | [d1, d2] => { results := [.lit (.bool true)], args := [d1, d2] }
  | _ => none }
def wideTurnedRow : OpenClaim := { program := "ytflmpdfcbdfabaa", sum := "c0284defed4a657ec6092c34d1fb93ca534efe91dca78e4e22610c9e4b1f467d", func := "dragoman/dragomanlaw04.WideTurned", spec := "wideTurned", unfollowed := true, recurses := true, apart := false }
def WideTurnedSaid : Prop := wideTurnedRow.holds Try.pinned (OpenSpec.ofChange wideTurnedSpec)

/-- ITS FALSE NEIGHBOUR: 'it returns false'. Refute it at one input. -/
def wideTurnedWrong : ChangeSpec := { name := "wideTurned", fn := fun _ => fun
  | [d1, d2] => { results := [.lit (.bool false)], args := [d1, d2] }
  | _ => none }
def WideTurnedWrongFalsely : Prop := wideTurnedRow.holds Try.pinned (OpenSpec.ofChange wideTurnedWrong)

/-- 'dragomanlaw04.WideMarks': WHATEVER THE INPUT: true; the input reads as it did. -/
def wideMarksSpec : ChangeSpec := { name := "wideMarks", fn := fun _ => fun
  | [d1, d2] => { results := [.lit (.bool true)], args := [d1, d2] }
  | _ => none }
def wideMarksRow : OpenClaim := { program := "ytflmpdfcbdfabaa", sum := "c0284defed4a657ec6092c34d1fb93ca534efe91dca78e4e22610c9e4b1f467d", func := "dragoman/dragomanlaw04.WideMarks", spec := "wideMarks", unfollowed := true, recurses := true, apart := false }
def WideMarksSaid : Prop := wideMarksRow.holds Try.pinned (OpenSpec.ofChange wideMarksSpec)

/-- ITS FALSE NEIGHBOUR: 'it returns false'. Refute it at one input. -/
def wideMarksWrong : ChangeSpec := { name := "wideMarks", fn := fun _ => fun
  | [d1, d2] => { results := [.lit (.bool false)], args := [d1, d2] }
  | _ => none }
def WideMarksWrongFalsely : Prop := wideMarksRow.holds Try.pinned (OpenSpec.ofChange wideMarksWrong)

/-- 'dragomanlaw04.WideSizes': WHATEVER THE INPUT: true; the input reads as it did. -/
def wideSizesSpec : ChangeSpec := { name := "wideSizes", fn := fun _ => fun
  | [d] => { results := [.lit (.bool true)], args := [d] }
  | _ => none }
def wideSizesRow : OpenClaim := { program := "ytflmpdfcbdfabaa", sum := "c0284defed4a657ec6092c34d1fb93ca534efe91dca78e4e22610c9e4b1f467d", func := "dragoman/dragomanlaw04.WideSizes", spec := "wideSizes", unfollowed := true, recurses := true, apart := false }
def WideSizesSaid : Prop := wideSizesRow.holds Try.pinned (OpenSpec.ofChange wideSizesSpec)

/-- ITS FALSE NEIGHBOUR: 'it returns false'. Refute it at one input. -/
def wideSizesWrong : ChangeSpec := { name := "wideSizes", fn := fun _ => fun
  | [d] => { results := [.lit (.bool false)], args := [d] }
  | _ => none }
def WideSizesWrongFalsely : Prop := wideSizesRow.holds Try.pinned (OpenSpec.ofChange wideSizesWrong)

/- THE SECOND FORM. 'bulk': how many values and letters a reading holds, each counted each time it is reached (what is shared counts as often as it is met; a slice's spare places count too). A statement '..UptoSaid' is the law's where the arguments, and the package variables that the reading takes, are together of bulk at most 1048576: NARROWER than '..Said'. Prove '..Said' where nothing that the law and all that it calls make is longer than what came in: it says more and counts as full. Else prove '..UptoSaid'. A law counts once. -/
mutual
def uptoBulk {H : Type} : DataW H → Nat
  | .lit (.string bytes) => bytes.length + 1
  | .lit _ => 1
  | .nil => 1
  | .ptr d => uptoBulk d + 1
  | .slice elems spare => uptoBulkAll elems + uptoBulkAll spare + 1
  | .agg parts => uptoBulkAll parts + 1
  | .iface _ d => uptoBulk d + 1
  | .map entries => uptoBulkEntries entries + 1
  | .held _ => 1
def uptoBulkAll {H : Type} : List (DataW H) → Nat
  | [] => 0
  | d :: r => uptoBulk d + uptoBulkAll r
def uptoBulkEntries {H : Type} : List (Lit × DataW H) → Nat
  | [] => 0
  | x :: r => uptoBulkEntry x + uptoBulkEntries r
def uptoBulkEntry {H : Type} : Lit × DataW H → Nat
  | (.string bytes, d) => bytes.length + uptoBulk d + 1
  | (_, d) => uptoBulk d + 1
 end
def uptoSmall : (H : Type) → List (DataW H) → Bool := fun _ ds => decide (uptoBulkAll ds ≤ 1048576)
def OpenSpec.upto (s : _root_.Go.ChangeSpec) : _root_.Go.OpenSpec := { _root_.Go.OpenSpec.ofChange s with cond := some uptoSmall }

/-- 'dragomanlaw04.WideSets', WHERE WHAT IT READS IS OF BULK AT MOST 1048576: true; the input reads as it did. -/
def wideSetsUptoRow : OpenClaim := { program := "ytflmpdfcbdfabaa", sum := "c0284defed4a657ec6092c34d1fb93ca534efe91dca78e4e22610c9e4b1f467d", func := "dragoman/dragomanlaw04.WideSets", spec := "wideSets", unfollowed := true, recurses := true, apart := false, narrowed := true }
def WideSetsUptoSaid : Prop := wideSetsUptoRow.holds Try.pinned (OpenSpec.upto wideSetsSpec)

/-- 'dragomanlaw04.WideGets', WHERE WHAT IT READS IS OF BULK AT MOST 1048576: true; the input reads as it did. -/
def wideGetsUptoRow : OpenClaim := { program := "ytflmpdfcbdfabaa", sum := "c0284defed4a657ec6092c34d1fb93ca534efe91dca78e4e22610c9e4b1f467d", func := "dragoman/dragomanlaw04.WideGets", spec := "wideGets", unfollowed := true, recurses := true, apart := false, narrowed := true }
def WideGetsUptoSaid : Prop := wideGetsUptoRow.holds Try.pinned (OpenSpec.upto wideGetsSpec)

/-- 'dragomanlaw04.WideBack', WHERE WHAT IT READS IS OF BULK AT MOST 1048576: true; the input reads as it did. -/
def wideBackUptoRow : OpenClaim := { program := "ytflmpdfcbdfabaa", sum := "c0284defed4a657ec6092c34d1fb93ca534efe91dca78e4e22610c9e4b1f467d", func := "dragoman/dragomanlaw04.WideBack", spec := "wideBack", unfollowed := true, recurses := true, apart := false, narrowed := true }
def WideBackUptoSaid : Prop := wideBackUptoRow.holds Try.pinned (OpenSpec.upto wideBackSpec)

/-- 'dragomanlaw04.WideTurned', WHERE WHAT IT READS IS OF BULK AT MOST 1048576: true; the input reads as it did. -/
def wideTurnedUptoRow : OpenClaim := { program := "ytflmpdfcbdfabaa", sum := "c0284defed4a657ec6092c34d1fb93ca534efe91dca78e4e22610c9e4b1f467d", func := "dragoman/dragomanlaw04.WideTurned", spec := "wideTurned", unfollowed := true, recurses := true, apart := false, narrowed := true }
def WideTurnedUptoSaid : Prop := wideTurnedUptoRow.holds Try.pinned (OpenSpec.upto wideTurnedSpec)

/-- 'dragomanlaw04.WideMarks', WHERE WHAT IT READS IS OF BULK AT MOST 1048576: true; the input reads as it did. -/
def wideMarksUptoRow : OpenClaim := { program := "ytflmpdfcbdfabaa", sum := "c0284defed4a657ec6092c34d1fb93ca534efe91dca78e4e22610c9e4b1f467d", func := "dragoman/dragomanlaw04.WideMarks", spec := "wideMarks", unfollowed := true, recurses := true, apart := false, narrowed := true }
def WideMarksUptoSaid : Prop := wideMarksUptoRow.holds Try.pinned (OpenSpec.upto wideMarksSpec)

/-- 'dragomanlaw04.WideSizes', WHERE WHAT IT READS IS OF BULK AT MOST 1048576: true; the input reads as it did. -/
def wideSizesUptoRow : OpenClaim := { program := "ytflmpdfcbdfabaa", sum := "c0284defed4a657ec6092c34d1fb93ca534efe91dca78e4e22610c9e4b1f467d", func := "dragoman/dragomanlaw04.WideSizes", spec := "wideSizes", unfollowed := true, recurses := true, apart := false, narrowed := true }
def WideSizesUptoSaid : Prop := wideSizesUptoRow.holds Try.pinned (OpenSpec.upto wideSizesSpec)

end Rows
end Go.Proofs.Ytflmpdfcbdfabaa
