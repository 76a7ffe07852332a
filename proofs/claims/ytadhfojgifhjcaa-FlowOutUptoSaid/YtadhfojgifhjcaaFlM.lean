/- FlowOut: the opened list of strings; how a bulk bounds all their bytes. -/
import Derived.Test.YtadhfojgifhjcaaFlL
import Derived.Test.YtadhfojgifhjcaaRows
import Derived.ChangeSlices
import Derived.SliceStrings
import Derived.OpenShut
namespace Go.Proofs.Ytadhfojgifhjcaa.Fl
open Go.RowKit Go.WideShapes Go.ChangeShapes Go.Proofs.YtadhfojgifhjcaaW.PrintWords Go.Proofs.YtadhfojgifhjcaaW.PrintLast Go.Proofs.YtadhfojgifhjcaaW.PrintMore
set_option linter.unusedVariables false
theorem bulk_strs {H : Type} (l : List ByteArray) : tot l ≤ Rows.uptoBulkAll (strs (H := H) l) := by
  induction l with
  | nil => exact Nat.zero_le _
  | cons x t ih =>
    show x.size + tot t ≤ Rows.uptoBulk (.lit (.string x.data.toList)) + Rows.uptoBulkAll (strs (H := H) t)
    have : x.size = x.data.toList.length := rfl
    simp only [Rows.uptoBulk]
    omega
theorem open_strs {H : Type} {enc : TypeId × Value → H} {w : World} {base fuel : Nat} {held : Bool} {a : Option Addr} {len cap : Nat} {x : DataW H × List MemPlace}
    (h : DataW.trod enc Try.prog w base (fun _ => true) held fuel 27 (Value.slice a len cap).cells.toList = some x) :
    ∃ ss : List ByteArray, len = ss.length ∧ Kd.string.C w a ss.length ss ∧ tot ss ≤ Rows.uptoBulk x.1 := by
  rcases open_strings Try.underlying27 Try.underlying9 (by kernel_rfl) h with ⟨hcs, rfl⟩ | ⟨ad, l, c, zs, hcs, _, hl, hm, hz, rfl, hcell, hsz⟩
  · simp [Value.cells] at hcs
    obtain ⟨rfl, rfl, rfl⟩ := hcs
    exact ⟨[], rfl, Kd.C_of_reads (d := ByteArray.empty) (ReadsOf.nil _ _ _), Nat.zero_le _⟩
  · simp [Value.cells] at hcs
    obtain ⟨rfl, rfl, rfl⟩ := hcs
    have hz' : zs.length = cap := by simpa using hz
    have e : (zs.take len).length = len := by rw [List.length_take]; omega
    refine ⟨zs.take len, e.symm, Kd.C_of_reads (d := ByteArray.empty) ⟨rfl, ?_, fun _ => ⟨ad, rfl, fun j hj => ?_⟩⟩, ?_⟩
    · rw [e]
      simp only [maxLen] at hm
      omega
    · rw [e] at hj
      rw [hcell j (by omega)]
      simp [List.getD, hj]
    · have := bulk_strs (H := H) (zs.take len)
      simp only [Rows.uptoBulk]
      omega
end Go.Proofs.Ytadhfojgifhjcaa.Fl
