/- FlowPieces: the walk over opened rows. -/
import Derived.Test.YtadhfojgifhjcaaFlP2
import Derived.Test.YtadhfojgifhjcaaRows
import Derived.ChangeSlices
import Derived.OpenShut
namespace Go.Proofs.Ytadhfojgifhjcaa.Fl
open Go.RowKit Go.WideShapes Go.ChangeShapes Go.Proofs.YtadhfojgifhjcaaW.PrintWords Go.Proofs.YtadhfojgifhjcaaW.PrintLast Go.Proofs.YtadhfojgifhjcaaW.PrintMore
set_option linter.unusedVariables false
theorem open_row_any {w : World} {k : IntKind} {a : Option Addr} {len cap : Nat} {zs : List Int} (h : (a = none ∧ len = 0 ∧ cap = 0 ∧ zs = []) ∨ ∃ x, a = some x ∧ len ≤ cap ∧ cap ≤ maxLen ∧ zs.length = cap ∧ (∀ i, i < zs.length → w.cell? (x.add i) = some (.int k (zs.getD i 0))) ∧ ∀ n ∈ zs, (Lit.int k n).wf = true) :
    ∃ l : List Int, len = l.length ∧ Kd.C (Kd.int k) w a l.length l ∧ l.length ≤ cap ∧ ∀ x ∈ l, (Lit.int k x).wf = true := by
  obtain ⟨l, h1, h2, _, h4, h5⟩ := ReadsInt.ofRowC h
  exact ⟨l, h1, Kd.C_of_reads (d := (0 : Int)) h2, h5, h4⟩
theorem flowPieces_walk (W : World) (a0 : Option Addr) (len0 cap0 : Nat) (z0 : List Int) (w0 : (a0 = none ∧ len0 = 0 ∧ cap0 = 0 ∧ z0 = []) ∨ ∃ x, a0 = some x ∧ len0 ≤ cap0 ∧ cap0 ≤ maxLen ∧ z0.length = cap0 ∧ (∀ i, i < z0.length → W.cell? (x.add i) = some (.int .u8 (z0.getD i 0))) ∧ ∀ n ∈ z0, (Lit.int .u8 n).wf = true) (y0 : len0 * 1 ≤ 140737488351232) (a1 : Option Addr) (len1 cap1 : Nat) (z1 : List Int) (w1 : (a1 = none ∧ len1 = 0 ∧ cap1 = 0 ∧ z1 = []) ∨ ∃ x, a1 = some x ∧ len1 ≤ cap1 ∧ cap1 ≤ maxLen ∧ z1.length = cap1 ∧ (∀ i, i < z1.length → W.cell? (x.add i) = some (.int .i64 (z1.getD i 0))) ∧ ∀ n ∈ z1, (Lit.int .i64 n).wf = true) (y1 : len1 * 8 ≤ 140737488351232) (r : Int) (wr : (Lit.int .i64 r).wf = true) :
    Calls Try.prog 8 #[.slice a0 len0 cap0, .slice a1 len1 cap1, .int .i64 r] W fun e w' => e = .returned (.bool true) ∧ Below W.heap.size W w' := by
  obtain ⟨l0, rfl, h0, hc0, hw0⟩ := open_row_any w0
  obtain ⟨l1, rfl, h1, hc1, hw1⟩ := open_row_any w1
  exact flowPiecesC a0 cap0 l0 a1 cap1 l1 r W h0 h1 hc0 (by omega) (fun y hy => by have := bounds_u8 (hw0 y hy); omega)
end Go.Proofs.Ytadhfojgifhjcaa.Fl
