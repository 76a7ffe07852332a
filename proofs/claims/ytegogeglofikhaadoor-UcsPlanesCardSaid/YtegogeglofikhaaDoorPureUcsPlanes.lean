/- UcsPlanes: the plain law, and the walk joined with it. -/
import Derived.Test.YtegogeglofikhaaDoorPUcsPlanesx2
import Derived.Test.YtegogeglofikhaaDoorUcP
namespace Go.Proofs.YtegogeglofikhaaDoor.PUcsPlanes
open Go.Proofs.YtegogeglofikhaaDoor
open Go.RowKit Go.Proofs.YtegogeglofikhaaDoorW.PrintWords Go.Proofs.YtegogeglofikhaaDoorW.PrintLast Go.Proofs.YtegogeglofikhaaDoorW.PrintMore
set_option linter.unusedVariables false
theorem scal_f (u : Int) : ucs_Scalar.f u = some (decide (Uc.Scal u)) := Uc.scalar_f u
theorem works_f (k : Nat) : dragomanlaw01_works.f k = some true := by
  have e1 : ucs_Join.f 55357 56832 = some (128512, true) := by decide +kernel
  have e2 : decide (Uc.Scal 55296) = false := by decide
  have e3 : decide (Uc.Scal 1114111) = true := by decide
  have e4 : (Uc.hexAll 65).toList = [85, 43, 48, 48, 52, 49] := by
    rw [Uc.hexAll_list 65 (by decide)]
    decide
  unfold dragomanlaw01_works.f
  rw [e1, scal_f, scal_f, e2, e3]
  simp [ucs_Hex.f, e4]
theorem high_f (u : Int) : ucs_High.f u = some (decide (Uc.IsH u)) := by
  unfold ucs_High.f Uc.IsH
  by_cases h : u ≥ 55296 <;> by_cases h2 : u < 56320 <;> simp [*] <;> omega
theorem low_f (u : Int) : ucs_Low.f u = some (decide (Uc.IsL u)) := by
  unfold ucs_Low.f Uc.IsL
  by_cases h : u ≥ 56320 <;> by_cases h2 : u ≤ 57343 <;> simp [*] <;> omega
theorem join_f (h l : Int) : ucs_Join.f h l = some (Uc.joinF h l) := by
  unfold ucs_Join.f
  rw [high_f, low_f]
  simp only [Option.bind_some]
  by_cases a : Uc.IsH h
  · by_cases b : Uc.IsL l
    · rw [if_pos (decide_eq_true a), if_pos (decide_eq_true b), Uc.join_val a b, Uc.join_yes a b]
    · rw [if_pos (decide_eq_true a), if_neg (by simp [b]), Uc.join_not (fun x => b x.2)]
  · rw [if_neg (by simp [a]), Uc.join_not (fun x => a x.1)]
theorem plane_f (u : Int) : ucs_Plane.f u = some (Uc.plane u) := by
  unfold ucs_Plane.f Uc.plane
  rw [scal_f]
  simp only [Option.bind_some]
  by_cases a : Uc.Scal u
  · rw [if_pos (decide_eq_true a), if_pos a]
    obtain ⟨a0, a1, _⟩ := a
    rw [show wrap64 (u / 65536) = u / 65536 by unfold wrap64; omega]
  · rw [if_neg (by simp [a]), if_neg a]
theorem j0_f (c d : Int) : dragomanlaw01_UcsPlanes.j0 1 c d false = some true := by
  rw [dragomanlaw01_UcsPlanes.j0, if_neg (by decide), join_f]
  simp only [Option.bind_some]
  by_cases h : Uc.IsH c ∧ Uc.IsL d
  · obtain ⟨hc, hd⟩ := h
    rw [Uc.join_yes hc hd, if_pos rfl, join_f, join_f]
    simp only [Option.bind_some]
    rw [plane_f]
    simp only [Option.bind_some]
    have c1 := hc.1
    have c2 := hc.2
    have d1 := hd.1
    have d2 := hd.2
    rw [Uc.plane_eq _ (Uc.scal_big _ (by omega) (by omega)), if_pos (by omega), if_pos (by omega),
      show wrap32 (d + 1) = d + 1 by unfold wrap32; omega, show wrap32 (c + 1) = c + 1 by unfold wrap32; omega,
      show wrap32 ((c - 55296) * 1024 + (d - 56320) + 65536 + 1) = (c - 55296) * 1024 + (d - 56320) + 65536 + 1 by unfold wrap32; omega,
      show wrap32 ((c - 55296) * 1024 + (d - 56320) + 65536 + 1024) = (c - 55296) * 1024 + (d - 56320) + 65536 + 1024 by unfold wrap32; omega]
    have hz : (if (Uc.joinF (c + 1) d).2 = true then some ((Uc.joinF (c + 1) d).1 == (c - 55296) * 1024 + (d - 56320) + 65536 + 1024) else some true) = some true := by
      by_cases hh : Uc.IsH (c + 1)
      · rw [Uc.join_yes hh hd, if_pos rfl]
        have : (c + 1 - 55296) * 1024 + (d - 56320) + 65536 = (c - 55296) * 1024 + (d - 56320) + 65536 + 1024 := by omega
        simp [this]
      · rw [Uc.join_not (fun x => hh x.1), if_neg (by decide)]
    rw [hz]
    by_cases hl : Uc.IsL (d + 1)
    · rw [Uc.join_yes hc hl, if_pos rfl, if_pos (by omega)]
    · rw [Uc.join_not (fun x => hl x.2), if_neg (by decide)]
  · rw [Uc.join_not h, if_neg (by decide)]
theorem pure : dragomanlaw01_UcsPlanes.Pure := by
  intro a b c d wa wb wc wd
  refine ⟨1, ?_⟩
  unfold dragomanlaw01_UcsPlanes.f
  rw [works_f, scal_f, scal_f, plane_f, plane_f, j0_f]
  simp only [Option.bind_some, if_true]
  by_cases ha : Uc.Scal a
  · by_cases hb : Uc.Scal b
    · by_cases hab : a ≤ b
      · rw [Uc.plane_eq a ha, Uc.plane_eq b hb, decide_eq_false (show ¬ (a / 65536 > b / 65536) by omega), j0_f]
        simp [ha, hb, hab]
      · simp [ha, hb, hab]
    · simp [ha, hb]
  · simp [ha]
theorem planes_walk (W : World) (hT : Uc.Tab W) (a : Int) (wa : (Lit.int .i32 a).wf = true) (b : Int) (wb : (Lit.int .i32 b).wf = true) (c : Int) (wc : (Lit.int .i32 c).wf = true) (d : Int) (wd : (Lit.int .i32 d).wf = true) :
    Calls Tryd.prog 7 #[.int .i32 a, .int .i32 b, .int .i32 c, .int .i32 d] W fun e w' => e = .returned (.bool true) ∧ Below W.heap.size W w' :=
  dragomanlaw01_UcsPlanes.walk pure a b c d W wa wb wc wd hT
end Go.Proofs.YtegogeglofikhaaDoor.PUcsPlanes
