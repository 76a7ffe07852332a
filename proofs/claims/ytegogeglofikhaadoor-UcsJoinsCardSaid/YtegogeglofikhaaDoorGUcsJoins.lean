/- ucs.Hex, as the print asks for it; its world holds the table of math/bits. -/
import Derived.Test.YtegogeglofikhaaDoorPUcsJoinsx0
import Derived.Test.YtegogeglofikhaaDoorUcJ
namespace Go.Proofs.YtegogeglofikhaaDoor.PUcsJoins
open Go.RowKit Go.Proofs.YtegogeglofikhaaDoorW.PrintWords Go.Proofs.YtegogeglofikhaaDoorW.PrintLast Go.Proofs.YtegogeglofikhaaDoorW.PrintMore
open Go.Proofs.YtegogeglofikhaaDoor (Uc.Tab Uc.hexAll Uc.hexAll_c Uc.parseF Uc.parseC)
set_option linter.unusedVariables false
def ucs_Hex.f (k : Nat) (a0 : Int) : Option ByteArray := some (Uc.hexAll a0)
theorem ucs_Hex.mono : ∀ a0 k, LeO (ucs_Hex.f k a0) (ucs_Hex.f (k + 1) a0) := fun _ _ => LeO.refl _
theorem ucs_Hex.calls (k : Nat) (a0 : Int) (r : ByteArray) (w : World) (h : ucs_Hex.f k a0 = some r) (hT : Uc.Tab w) :
    Calls Tryd.prog 19 #[.int .i32 a0] w fun e w' => e = .returned (.string r) ∧ Below w.heap.size w w' := by
  obtain rfl : Uc.hexAll a0 = r := Option.some.inj h
  exact Uc.hexAll_c a0 w hT
def ucs_Parse.f (k : Nat) (a0 : ByteArray) : Option (Int × Bool) := some (Uc.parseF a0)
theorem ucs_Parse.mono : ∀ a0 k, LeO (ucs_Parse.f k a0) (ucs_Parse.f (k + 1) a0) := fun _ _ => LeO.refl _
theorem ucs_Parse.calls (k : Nat) (a0 : ByteArray) (r1 : Int) (r2 : Bool) (w : World) (h : ucs_Parse.f k a0 = some (r1, r2)) (hT : Uc.Tab w) :
    Calls Tryd.prog 12 #[.string a0] w fun e w' => e = .returned (.tuple #[.int .i32 r1, .bool r2]) ∧ Below w.heap.size w w' := by
  have e : Uc.parseF a0 = (r1, r2) := Option.some.inj h
  have hc := Uc.parseC a0 w hT
  rw [e] at hc
  exact hc
end Go.Proofs.YtegogeglofikhaaDoor.PUcsJoins
