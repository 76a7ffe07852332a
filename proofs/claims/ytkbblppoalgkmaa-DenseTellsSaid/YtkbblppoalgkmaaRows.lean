/-
  No cell of these rows narrows 'for every input' (looked for: loops, veiled, ifaces, maps, wideKeys, modest, calm, conditions, laid).
  DERIVED. THE GIVEN ROWS OF THIS SEAT. 3 by the template 'for every input the law returns true; each argument reads behind the call as it read before'; 0 by the template 'total and deterministic' (their statements: YtkbblppoalgkmaaTotals.lean).
  GIVEN WITH THE SEED: the statements are not yours to turn. If you find one false, say at which input.
  Laid BY PROGRAM, IN A SANDBOX (cutbox-rows.mjs): the forced cells as the released guide's own fill.sh prints them over the translation 0394f64e8688877a… (all of the seat's roots in one cut). By AI agents, Wed Nov 11 2026. No macro, syntax, notation, axiom, sorry.
-/
import Derived.Test.YtkbblppoalgkmaaChecked
import GoSem.Claim
import GoSem.ClaimJoined
import GoSem.ClaimMapViews
import Derived.JoinedTies
import Derived.KernelRfl
namespace Go.Proofs.Ytkbblppoalgkmaa
/- THE CELL 'sum', in the pinned program and in every row, IS THE sha256 OF THE DUMP (.gsa) THAT YtkbblppoalgkmaaProg.lean LOADS. Nothing in Lean hashes anything: it is a label: what it is worth is what the hold of that sum in a sandbox is worth. -/
noncomputable def Try.pinned : Pinned := { name := "ytkbblppoalgkmaa", sum := "0394f64e8688877a3625c729dce7d2b8be9e8728556e7cb7adb095809ebc0e4d", checked := Try.checked }
namespace Rows
def none {H : Type} : Left H := { results := [], args := [] }

/-- 'dragomanlaw07.DenseBack': WHATEVER THE INPUT: true; the input reads as it did. -/
def denseBackSpec : ChangeSpec := { name := "denseBack", fn := fun _ => fun
  | [d1, d2, d3] => { results := [.lit (.bool true)], args := [d1, d2, d3] }
  | _ => none }
def denseBackRow : OpenClaim := { program := "ytkbblppoalgkmaa", sum := "0394f64e8688877a3625c729dce7d2b8be9e8728556e7cb7adb095809ebc0e4d", func := "dragoman/dragomanlaw07.DenseBack", spec := "denseBack", apart := false }
def DenseBackSaid : Prop := denseBackRow.holds Try.pinned (OpenSpec.ofChange denseBackSpec)

/-- ITS FALSE NEIGHBOUR: 'it returns false'. Refute it at one input. -/
def denseBackWrong : ChangeSpec := { name := "denseBack", fn := fun _ => fun
  | [d1, d2, d3] => { results := [.lit (.bool false)], args := [d1, d2, d3] }
  | _ => none }
def DenseBackWrongFalsely : Prop := denseBackRow.holds Try.pinned (OpenSpec.ofChange denseBackWrong)

/-- 'dragomanlaw07.DenseMore': WHATEVER THE INPUT: true; the input reads as it did. -/
def denseMoreSpec : ChangeSpec := { name := "denseMore", fn := fun _ => fun
  | [d1, d2, d3] => { results := [.lit (.bool true)], args := [d1, d2, d3] }
  | _ => none }
def denseMoreRow : OpenClaim := { program := "ytkbblppoalgkmaa", sum := "0394f64e8688877a3625c729dce7d2b8be9e8728556e7cb7adb095809ebc0e4d", func := "dragoman/dragomanlaw07.DenseMore", spec := "denseMore", apart := false }
def DenseMoreSaid : Prop := denseMoreRow.holds Try.pinned (OpenSpec.ofChange denseMoreSpec)

/-- ITS FALSE NEIGHBOUR: 'it returns false'. Refute it at one input. -/
def denseMoreWrong : ChangeSpec := { name := "denseMore", fn := fun _ => fun
  | [d1, d2, d3] => { results := [.lit (.bool false)], args := [d1, d2, d3] }
  | _ => none }
def DenseMoreWrongFalsely : Prop := denseMoreRow.holds Try.pinned (OpenSpec.ofChange denseMoreWrong)

/-- 'dragomanlaw07.DenseTells': WHATEVER THE INPUT: true; the input reads as it did. -/
def denseTellsSpec : ChangeSpec := { name := "denseTells", fn := fun _ => fun
  | [d1, d2, d3] => { results := [.lit (.bool true)], args := [d1, d2, d3] }
  | _ => none }
def denseTellsRow : OpenClaim := { program := "ytkbblppoalgkmaa", sum := "0394f64e8688877a3625c729dce7d2b8be9e8728556e7cb7adb095809ebc0e4d", func := "dragoman/dragomanlaw07.DenseTells", spec := "denseTells", apart := false }
def DenseTellsSaid : Prop := denseTellsRow.holds Try.pinned (OpenSpec.ofChange denseTellsSpec)

/-- ITS FALSE NEIGHBOUR: 'it returns false'. Refute it at one input. -/
def denseTellsWrong : ChangeSpec := { name := "denseTells", fn := fun _ => fun
  | [d1, d2, d3] => { results := [.lit (.bool false)], args := [d1, d2, d3] }
  | _ => none }
def DenseTellsWrongFalsely : Prop := denseTellsRow.holds Try.pinned (OpenSpec.ofChange denseTellsWrong)

/- THE SECOND FORM. 'bulk': how many values and letters a reading holds, each counted each time it is reached (what is shared counts as often as it is met; a slice's spare places count too). A statement '..UptoSaid' is the law's where the arguments, and the package variables that the reading takes, are together of bulk at most 1048576: NARROWER than '..Said'. Prove '..Said' where nothing that the law and all that it calls make is longer than what came in: it says more and counts as full. Else prove '..UptoSaid'. A law counts once. -/
mutual
def uptoBulk {H : Type} : DataW H → Nat
  | .lit (.string bytes) => bytes.length + 1
  | .lit _ => 1
  | .nil => 1
  | .ptr d => uptoBulk d + 1
  | .slice elems spare => uptoBulkAll elems + uptoBulkAll spare + 1
  | .agg parts => uptoBulkAll parts + 1
  | .iface _ d => uptoBulk d + 1
  | .map entries => uptoBulkEntries entries + 1
  | .held _ => 1
def uptoBulkAll {H : Type} : List (DataW H) → Nat
  | [] => 0
  | d :: r => uptoBulk d + uptoBulkAll r
def uptoBulkEntries {H : Type} : List (Lit × DataW H) → Nat
  | [] => 0
  | x :: r => uptoBulkEntry x + uptoBulkEntries r
def uptoBulkEntry {H : Type} : Lit × DataW H → Nat
  | (.string bytes, d) => bytes.length + uptoBulk d + 1
  | (_, d) => uptoBulk d + 1
 end
def uptoSmall : (H : Type) → List (DataW H) → Bool := fun _ ds => decide (uptoBulkAll ds ≤ 1048576)
def OpenSpec.upto (s : _root_.Go.ChangeSpec) : _root_.Go.OpenSpec := { _root_.Go.OpenSpec.ofChange s with cond := some uptoSmall }

/-- 'dragomanlaw07.DenseBack', WHERE WHAT IT READS IS OF BULK AT MOST 1048576: true; the input reads as it did. -/
def denseBackUptoRow : OpenClaim := { program := "ytkbblppoalgkmaa", sum := "0394f64e8688877a3625c729dce7d2b8be9e8728556e7cb7adb095809ebc0e4d", func := "dragoman/dragomanlaw07.DenseBack", spec := "denseBack", apart := false, narrowed := true }
def DenseBackUptoSaid : Prop := denseBackUptoRow.holds Try.pinned (OpenSpec.upto denseBackSpec)

/-- 'dragomanlaw07.DenseMore', WHERE WHAT IT READS IS OF BULK AT MOST 1048576: true; the input reads as it did. -/
def denseMoreUptoRow : OpenClaim := { program := "ytkbblppoalgkmaa", sum := "0394f64e8688877a3625c729dce7d2b8be9e8728556e7cb7adb095809ebc0e4d", func := "dragoman/dragomanlaw07.DenseMore", spec := "denseMore", apart := false, narrowed := true }
def DenseMoreUptoSaid : Prop := denseMoreUptoRow.holds Try.pinned (OpenSpec.upto denseMoreSpec)

/-- 'dragomanlaw07.DenseTells', WHERE WHAT IT READS IS OF BULK AT MOST 1048576: true; the input reads as it did. -/
def denseTellsUptoRow : OpenClaim := { program := "ytkbblppoalgkmaa", sum := "0394f64e8688877a3625c729dce7d2b8be9e8728556e7cb7adb095809ebc0e4d", func := "dragoman/dragomanlaw07.DenseTells", spec := "denseTells", apart := false, narrowed := true }
def DenseTellsUptoSaid : Prop := denseTellsUptoRow.holds Try.pinned (OpenSpec.upto denseTellsSpec)

end Rows
end Go.Proofs.Ytkbblppoalgkmaa
