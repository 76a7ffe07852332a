/- ucs.Hex, as the print asks for it; its world holds the table of math/bits. -/
import Derived.Test.YtegogeglofikhaaDoorPUcsTellsx0
import Derived.Test.YtegogeglofikhaaDoorUcH
namespace Go.Proofs.YtegogeglofikhaaDoor.PUcsTells
open Go.RowKit Go.Proofs.YtegogeglofikhaaDoorW.PrintWords Go.Proofs.YtegogeglofikhaaDoorW.PrintLast Go.Proofs.YtegogeglofikhaaDoorW.PrintMore
open Go.Proofs.YtegogeglofikhaaDoor (Uc.Tab Uc.hexAll Uc.hexAll_c)
set_option linter.unusedVariables false
def ucs_Hex.f (k : Nat) (a0 : Int) : Option ByteArray := some (Uc.hexAll a0)
theorem ucs_Hex.mono : ∀ a0 k, LeO (ucs_Hex.f k a0) (ucs_Hex.f (k + 1) a0) := fun _ _ => LeO.refl _
theorem ucs_Hex.calls (k : Nat) (a0 : Int) (r : ByteArray) (w : World) (h : ucs_Hex.f k a0 = some r) (hT : Uc.Tab w) :
    Calls Tryd.prog 19 #[.int .i32 a0] w fun e w' => e = .returned (.string r) ∧ Below w.heap.size w w' := by
  obtain rfl : Uc.hexAll a0 = r := Option.some.inj h
  exact Uc.hexAll_c a0 w hT
end Go.Proofs.YtegogeglofikhaaDoor.PUcsTells
