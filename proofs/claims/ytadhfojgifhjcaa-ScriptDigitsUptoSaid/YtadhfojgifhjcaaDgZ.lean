/- ScriptDigits: the walk over an opened row of bytes; how a bulk bounds a length. -/
import Derived.Test.YtadhfojgifhjcaaDgW
import Derived.Test.YtadhfojgifhjcaaRows
import Derived.ChangeSlices
import Derived.OpenShut
namespace Go.Proofs.Ytadhfojgifhjcaa.Dg
open Go.RowKit Go.WideShapes Go.ChangeShapes Go.Proofs.YtadhfojgifhjcaaW.PrintWords Go.Proofs.YtadhfojgifhjcaaW.PrintLast Go.Proofs.YtadhfojgifhjcaaW.PrintMore
set_option linter.unusedVariables false
theorem open_row {w : World} {a : Option Addr} {len cap : Nat} {zs : List Int} (h : (a = none ∧ len = 0 ∧ cap = 0 ∧ zs = []) ∨ ∃ x, a = some x ∧ len ≤ cap ∧ cap ≤ maxLen ∧ zs.length = cap ∧ (∀ i, i < zs.length → w.cell? (x.add i) = some (.int .u8 (zs.getD i 0))) ∧ ∀ n ∈ zs, (Lit.int .u8 n).wf = true) :
    ∃ l : List Int, len = l.length ∧ Kd.C (Kd.int .u8) w a l.length l ∧ l.length ≤ cap ∧ ∀ x ∈ l, 0 ≤ x ∧ x < 256 := by
  obtain ⟨l, h1, h2, _, h4, h5⟩ := ReadsInt.ofRowC h
  refine ⟨l, h1, Kd.C_of_reads (d := (0 : Int)) h2, h5, fun x hx => ?_⟩
  have := bounds_u8 (h4 x hx)
  omega
theorem digits_walk (W : World) (a : Option Addr) (len cap : Nat) (zs : List Int) (h : (a = none ∧ len = 0 ∧ cap = 0 ∧ zs = []) ∨ ∃ x, a = some x ∧ len ≤ cap ∧ cap ≤ maxLen ∧ zs.length = cap ∧ (∀ i, i < zs.length → W.cell? (x.add i) = some (.int .u8 (zs.getD i 0))) ∧ ∀ n ∈ zs, (Lit.int .u8 n).wf = true) (hlen : len ≤ 1048576) (s : ByteArray) (hs : s.size ≤ 1048576) :
    Calls Try.prog 10 #[.slice a len cap, .string s] W fun e w' => e = .returned (.bool true) ∧ Below W.heap.size W w' := by
  obtain ⟨l, rfl, hC, _, hb⟩ := open_row h
  exact digitsC a cap l s W hC hb (by omega) (by omega)
theorem size_list (s : ByteArray) : s.size = s.data.toList.length := rfl
theorem bulk_lits {H : Type} (k : IntKind) (l : List Int) : Rows.uptoBulkAll (ChangeShapes.lits (H := H) k l) = l.length := by
  induction l with
  | nil => rfl
  | cons x t ih =>
    show Rows.uptoBulk (.lit (.int k x)) + Rows.uptoBulkAll (ChangeShapes.lits (H := H) k t) = _
    rw [ih]
    simp [Rows.uptoBulk]
    omega
end Go.Proofs.Ytadhfojgifhjcaa.Dg
