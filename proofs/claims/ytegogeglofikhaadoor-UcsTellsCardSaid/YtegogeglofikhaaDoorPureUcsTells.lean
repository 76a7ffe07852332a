/- UcsTells: the plain law, and the walk joined with it. -/
import Derived.Test.YtegogeglofikhaaDoorPUcsTellsx2
import Derived.Test.YtegogeglofikhaaDoorUcP
namespace Go.Proofs.YtegogeglofikhaaDoor.PUcsTells
open Go.Proofs.YtegogeglofikhaaDoor
open Go.RowKit Go.Proofs.YtegogeglofikhaaDoorW.PrintWords Go.Proofs.YtegogeglofikhaaDoorW.PrintLast Go.Proofs.YtegogeglofikhaaDoorW.PrintMore
set_option linter.unusedVariables false
theorem scal_f (u : Int) : ucs_Scalar.f u = some (decide (Uc.Scal u)) := Uc.scalar_f u
theorem rscal_f (u : Int) : dragomanref01_Scalar.f u = some (decide (Uc.Scal u)) := by
  unfold dragomanref01_Scalar.f Uc.Scal
  by_cases h0 : u ≥ 0 <;> by_cases h1 : u ≤ 1114111 <;> by_cases h2 : u < 55296 <;> by_cases h3 : u > 57343 <;> simp [*] <;> omega
theorem plane_f (u : Int) : ucs_Plane.f u = some (Uc.plane u) := by
  unfold ucs_Plane.f Uc.plane
  rw [scal_f]
  simp only [Option.bind_some]
  by_cases a : Uc.Scal u
  · rw [if_pos (decide_eq_true a), if_pos a]
    obtain ⟨a0, a1, _⟩ := a
    rw [show wrap64 (u / 65536) = u / 65536 by unfold wrap64; omega]
  · rw [if_neg (by simp [a]), if_neg a]
theorem rplane_f (u : Int) : dragomanref01_Plane.f u = some (Uc.plane u) := by
  unfold dragomanref01_Plane.f Uc.plane
  rw [rscal_f]
  simp only [Option.bind_some]
  by_cases a : Uc.Scal u
  · rw [if_pos (decide_eq_true a), if_pos a]
    obtain ⟨a0, a1, _⟩ := a
    rw [show wrap64 u = u by unfold wrap64; omega, Int.tdiv_eq_ediv_of_nonneg a0, show wrap64 (u / 65536) = u / 65536 by unfold wrap64; omega]
  · rw [if_neg (by simp [a]), if_neg a]
theorem step (k : Nat) (s : ByteArray) (u : Int) (h0 : 0 ≤ u) (h1 : u < 16777216) (hs : s.size ≤ 6) (hc : u > 0 ∨ s.size < 4) :
    dragomanref01_Hex.l0 (k + 1) s u = dragomanref01_Hex.l0 k ((⟨#[Uc.dgu (u % 16)]⟩ : ByteArray) ++ s) (u / 16) := by
  have e1 : Int.tmod u 16 = u % 16 := Int.tmod_eq_emod_of_nonneg h0
  have e2 : Int.tdiv u 16 = u / 16 := Int.tdiv_eq_ediv_of_nonneg h0
  have e3 : wrap64 (u % 16 + 1) = u % 16 + 1 := by unfold wrap64; omega
  have e4 : wrap64 (u / 16) = u / 16 := by unfold wrap64; omega
  have e5 := Uc.ext_dgu (u % 16) (by omega) (by omega)
  rw [dragomanref01_Hex.l0, e1, e2, e3, e4, e5]
  have hz : (⟨#[Uc.dgu (u % 16)]⟩ : ByteArray).size + s.size ≤ 9223372036854775807 := by
    rw [show (⟨#[Uc.dgu (u % 16)]⟩ : ByteArray).size = 1 from rfl]
    omega
  by_cases c : u > 0
  · rw [if_pos c, if_pos (by omega), if_pos (by omega), if_pos (by omega), if_pos hz]
  · rw [if_neg c, if_pos (by omega), if_pos (by omega), if_pos (by omega), if_pos (by omega), if_pos hz]
theorem fin (k : Nat) (s : ByteArray) (hs : s.size ≤ 6) (hc : 4 ≤ s.size) : dragomanref01_Hex.l0 (k + 1) s 0 = some ((⟨#[85, 43]⟩ : ByteArray) ++ s) := by
  rw [dragomanref01_Hex.l0, if_neg (by omega), if_neg (by omega), if_pos (by omega)]
theorem sz (x : UInt8) (s : ByteArray) : ((⟨#[x]⟩ : ByteArray) ++ s).size = s.size + 1 := by
  rw [ByteArray.size_append, show (⟨#[x]⟩ : ByteArray).size = 1 from rfl]
  omega
theorem sz0 : (⟨#[]⟩ : ByteArray).size = 0 := rfl
theorem loop (u : Int) (h0 : 0 ≤ u) (h1 : u < 16777216) : ∃ s, dragomanref01_Hex.l0 7 ⟨#[]⟩ u = some s ∧ s.toList = 85 :: 43 :: Uc.wd u := by
  have hm : ∀ a b : Int, a / 16 = b → a / 16 = b := fun _ _ h => h
  rw [step 6 _ u h0 h1 (by rw [sz0]; omega) (by rw [sz0]; omega)]
  rw [step 5 _ (u / 16) (by omega) (by omega) (by simp only [sz, sz0]; omega) (by simp only [sz, sz0]; omega)]
  rw [step 4 _ (u / 16 / 16) (by omega) (by omega) (by simp only [sz, sz0]; omega) (by simp only [sz, sz0]; omega)]
  rw [step 3 _ (u / 16 / 16 / 16) (by omega) (by omega) (by simp only [sz, sz0]; omega) (by simp only [sz, sz0]; omega)]
  by_cases a : u < 65536
  · have e : u / 16 / 16 / 16 / 16 = 0 := by omega
    rw [e, fin 2 _ (by simp only [sz, sz0]; omega) (by simp only [sz, sz0]; omega)]
    refine ⟨_, rfl, ?_⟩
    rw [Lib.toList_data, show u / 16 / 16 / 16 % 16 = u / 4096 by omega, show u / 16 / 16 % 16 = u / 256 % 16 by omega]
    unfold Uc.wd
    rw [if_pos a]
    simp
  rw [step 2 _ (u / 16 / 16 / 16 / 16) (by omega) (by omega) (by simp only [sz, sz0]; omega) (by omega)]
  by_cases b : u < 1048576
  · have e : u / 16 / 16 / 16 / 16 / 16 = 0 := by omega
    rw [e, fin 1 _ (by simp only [sz, sz0]; omega) (by simp only [sz, sz0]; omega)]
    refine ⟨_, rfl, ?_⟩
    rw [Lib.toList_data, show u / 16 / 16 / 16 / 16 % 16 = u / 65536 by omega, show u / 16 / 16 / 16 % 16 = u / 4096 % 16 by omega, show u / 16 / 16 % 16 = u / 256 % 16 by omega]
    unfold Uc.wd
    rw [if_neg a, if_pos b]
    simp
  rw [step 1 _ (u / 16 / 16 / 16 / 16 / 16) (by omega) (by omega) (by simp only [sz, sz0]; omega) (by omega)]
  have e : u / 16 / 16 / 16 / 16 / 16 / 16 = 0 := by omega
  rw [e, fin 0 _ (by simp only [sz, sz0]; omega) (by simp only [sz, sz0]; omega)]
  refine ⟨_, rfl, ?_⟩
  rw [Lib.toList_data, show u / 16 / 16 / 16 / 16 / 16 % 16 = u / 1048576 by omega, show u / 16 / 16 / 16 / 16 % 16 = u / 65536 % 16 by omega, show u / 16 / 16 / 16 % 16 = u / 4096 % 16 by omega, show u / 16 / 16 % 16 = u / 256 % 16 by omega]
  unfold Uc.wd
  rw [if_neg a, if_neg b]
  simp
theorem rhex (u : Int) : ∃ s, dragomanref01_Hex.f 7 u = some s ∧ (Uc.hexAll u).toList = s.toList := by
  unfold dragomanref01_Hex.f
  rw [rscal_f]
  simp only [Option.bind_some]
  by_cases a : Uc.Scal u
  · have a0 := a.1
    have a1 := a.2.1
    rw [if_pos (decide_eq_true a), show wrap64 u = u by unfold wrap64; omega]
    obtain ⟨s, h1, h2⟩ := loop u a0 (by omega)
    exact ⟨s, h1, by rw [h2, Uc.hexAll_list u a]⟩
  · rw [if_neg (by simp [a])]
    refine ⟨_, rfl, ?_⟩
    unfold Uc.hexAll
    rw [if_neg a]
theorem high_eq (u : Int) : ucs_High.f u = dragomanref01_High.f u := by
  unfold ucs_High.f dragomanref01_High.f
  congr 2
  simp
  omega
theorem pure : dragomanlaw01_UcsTells.Pure := by
  intro a wa
  refine ⟨7, ?_⟩
  obtain ⟨s, hs, he⟩ := rhex a
  obtain ⟨b, hb⟩ : ∃ b, dragomanref01_High.f a = some b := by unfold dragomanref01_High.f; split <;> exact ⟨_, rfl⟩
  obtain ⟨c, hc⟩ : ∃ b, dragomanref01_Low.f a = some b := by unfold dragomanref01_Low.f; split <;> exact ⟨_, rfl⟩
  have hc' : ucs_Low.f a = some c := hc
  unfold dragomanlaw01_UcsTells.f
  rw [scal_f, rscal_f, plane_f, rplane_f, high_eq, hb, hc, hc', hs]
  simp [ucs_Hex.f, he]
theorem tells_walk (W : World) (hT : Uc.Tab W) (a : Int) (wa : (Lit.int .i32 a).wf = true) :
    Calls Tryd.prog 5 #[.int .i32 a] W fun e w' => e = .returned (.bool true) ∧ Below W.heap.size W w' :=
  dragomanlaw01_UcsTells.walk pure a W wa hT
end Go.Proofs.YtegogeglofikhaaDoor.PUcsTells
