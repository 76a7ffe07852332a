/- UcsApart: the plain law, and the walk joined with it. -/
import Derived.Test.YtegogeglofikhaaDoorPUcsApartx2
import Derived.Test.YtegogeglofikhaaDoorUcP
namespace Go.Proofs.YtegogeglofikhaaDoor.PUcsApart
open Go.Proofs.YtegogeglofikhaaDoor
open Go.RowKit Go.Proofs.YtegogeglofikhaaDoorW.PrintWords Go.Proofs.YtegogeglofikhaaDoorW.PrintLast Go.Proofs.YtegogeglofikhaaDoorW.PrintMore
set_option linter.unusedVariables false
theorem scal_f (u : Int) : ucs_Scalar.f u = some (decide (Uc.Scal u)) := Uc.scalar_f u
theorem works_f (k : Nat) : dragomanlaw01_works.f k = some true := by
  have e1 : ucs_Join.f 55357 56832 = some (128512, true) := by decide +kernel
  have e2 : decide (Uc.Scal 55296) = false := by decide
  have e3 : decide (Uc.Scal 1114111) = true := by decide
  have e4 : (Uc.hexAll 65).toList = [85, 43, 48, 48, 52, 49] := by
    rw [Uc.hexAll_list 65 (by decide)]
    decide
  unfold dragomanlaw01_works.f
  rw [e1, scal_f, scal_f, e2, e3]
  simp [ucs_Hex.f, e4]
theorem pure : dragomanlaw01_UcsApart.Pure := by
  intro a b wa wb
  refine ⟨1, ?_⟩
  unfold dragomanlaw01_UcsApart.f
  rw [works_f, scal_f, scal_f]
  simp only [Option.bind_some, if_true]
  by_cases ha : Uc.Scal a
  · by_cases hb : Uc.Scal b
    · rw [decide_eq_true ha, decide_eq_true hb]
      simp only [if_true, Bool.not_true, dragomanlaw01_UcsApart.j0, ucs_Hex.f, Option.bind_some, Bool.false_eq_true, if_false]
      rw [Uc.hexAll_list a ha, Uc.hexAll_list b hb, Uc.hexAll_size a ha, Uc.hexAll_size b hb]
      have hA := ha
      have hB := hb
      obtain ⟨a0, a1, _⟩ := ha
      obtain ⟨b0, b1, _⟩ := hb
      have e : (((85 : UInt8) :: 43 :: Uc.wd a) == (85 :: 43 :: Uc.wd b)) = (a == b) := by
        by_cases hab : a = b
        · subst hab
          rw [beq_self_eq_true, beq_self_eq_true]
        · have hne : ¬ Uc.wd a = Uc.wd b := fun h => hab (Uc.wd_inj a b a0 (by omega) b0 (by omega) h)
          rw [beq_eq_false_iff_ne.mpr hab]
          exact beq_eq_false_iff_ne.mpr fun h => hne (List.cons.inj (List.cons.inj h).2).2
      rw [e, if_pos (by simp)]
      by_cases hc : a > b
      · rw [if_pos hc]
      · rw [if_neg hc]
        have := Uc.wd_mono a b (by omega)
        rw [decide_eq_true (by omega)]
    · rw [decide_eq_true ha, decide_eq_false hb]
      simp [dragomanlaw01_UcsApart.j0]
  · rw [decide_eq_false ha]
    simp [dragomanlaw01_UcsApart.j0]
theorem apart_walk (W : World) (hT : Uc.Tab W) (a : Int) (wa : (Lit.int .i32 a).wf = true) (b : Int) (wb : (Lit.int .i32 b).wf = true) :
    Calls Tryd.prog 6 #[.int .i32 a, .int .i32 b] W fun e w' => e = .returned (.bool true) ∧ Below W.heap.size W w' :=
  dragomanlaw01_UcsApart.walk pure a b W wa wb hT
end Go.Proofs.YtegogeglofikhaaDoor.PUcsApart
