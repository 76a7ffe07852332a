/- KscParts: three numbers make a syllable as the document says, and a syllable is taken apart again, at all numbers. No condition. -/
import Derived.Test.YtadhfojgifhjcaaPKscPartsx1
import Derived.OpenShut
namespace Go.Proofs.Ytadhfojgifhjcaa.Pure
open Go.RowKit Go.Proofs.Ytadhfojgifhjcaa.PKscParts Go.Proofs.YtadhfojgifhjcaaW.PrintWords Go.Proofs.YtadhfojgifhjcaaW.PrintLast

def Three (a b c : Int) : Prop := 0 ≤ a ∧ a < 19 ∧ 0 ≤ b ∧ b < 21 ∧ 0 ≤ c ∧ c < 28
instance (a b c : Int) : Decidable (Three a b c) := inferInstanceAs (Decidable (_ ∧ _))

theorem syl_yes {a b c : Int} (h : Three a b c) : ksc_Syllable.f a b c = some (44032 + (a * 21 + b) * 28 + c, true) := by
  obtain ⟨h0, h1, h2, h3, h4, h5⟩ := h
  unfold ksc_Syllable.f
  rw [if_neg (by omega), if_neg (by omega), if_neg (by omega), if_neg (by omega), if_neg (by omega), if_neg (by omega)]
  congr 2
  unfold wrap32 wrap64
  omega
theorem syl_no {a b c : Int} (h : ¬ Three a b c) : ksc_Syllable.f a b c = some (0, false) := by
  unfold Three at h
  unfold ksc_Syllable.f
  repeat' split
  all_goals first | rfl | (exfalso; omega)
theorem rsyl_yes {a b c : Int} (h : Three a b c) : dragomanref16_Syllable.f a b c = some (44032 + (a * 21 + b) * 28 + c, true) := by
  obtain ⟨h0, h1, h2, h3, h4, h5⟩ := h
  unfold dragomanref16_Syllable.f
  rw [if_neg (by omega), if_neg (by omega), if_neg (by omega), if_neg (by omega), if_neg (by omega), if_neg (by omega)]
  congr 2
  unfold wrap32 wrap64
  omega
theorem rsyl_no {a b c : Int} (h : ¬ Three a b c) : dragomanref16_Syllable.f a b c = some (0, false) := by
  unfold Three at h
  unfold dragomanref16_Syllable.f
  repeat' split
  all_goals first | rfl | (exfalso; omega)

theorem parts_yes {u : Int} (h : 44032 ≤ u ∧ u < 55204) : ksc_Parts.f u = some ((u - 44032) / 588, (u - 44032) / 28 % 21, (u - 44032) % 28, true) := by
  have e : wrap64 (wrap64 u - 44032) = u - 44032 := by unfold wrap64; omega
  unfold ksc_Parts.f
  rw [e, if_neg (by omega), if_neg (by omega)]
  have t : Int.tdiv (u - 44032) 28 = (u - 44032) / 28 := Int.tdiv_eq_ediv_of_nonneg (by omega)
  have t1 : Int.tmod (u - 44032) 28 = (u - 44032) % 28 := Int.tmod_eq_emod_of_nonneg (by omega)
  have e2 : wrap64 ((u - 44032) / 28) = (u - 44032) / 28 := by unfold wrap64; omega
  rw [t, t1, e2, Int.tdiv_eq_ediv_of_nonneg (by omega), Int.tmod_eq_emod_of_nonneg (by omega)]
  congr 2
  unfold wrap64
  omega
theorem parts_no {u : Int} (hw : -2147483648 ≤ u ∧ u ≤ 2147483647) (h : ¬ (44032 ≤ u ∧ u < 55204)) : ksc_Parts.f u = some (0, 0, 0, false) := by
  have e : wrap64 (wrap64 u - 44032) = u - 44032 := by unfold wrap64; omega
  unfold ksc_Parts.f
  rw [e]
  repeat' split
  all_goals first | rfl | (exfalso; omega)
theorem rparts_yes {u : Int} (h : 44032 ≤ u ∧ u < 55204) : dragomanref16_Parts.f u = some ((u - 44032) / 588, (u - 44032) / 28 % 21, (u - 44032) % 28, true) := by
  have e : wrap64 (wrap64 u - 44032) = u - 44032 := by unfold wrap64; omega
  unfold dragomanref16_Parts.f
  rw [e, if_neg (by omega), if_neg (by omega)]
  rw [Int.tdiv_eq_ediv_of_nonneg (show 0 ≤ u - 44032 by omega), Int.tmod_eq_emod_of_nonneg (show 0 ≤ u - 44032 by omega), Int.tmod_eq_emod_of_nonneg (show 0 ≤ u - 44032 by omega), Int.tdiv_eq_ediv_of_nonneg (by omega)]
  congr 2
  · unfold wrap64
    omega
  · congr 1
    unfold wrap64
    omega
theorem rparts_no {u : Int} (h : ¬ (44032 ≤ u ∧ u < 55204)) : dragomanref16_Parts.f u = some (0, 0, 0, false) := by
  unfold dragomanref16_Parts.f
  repeat' split
  all_goals first | rfl | (exfalso; omega)

theorem KscParts : dragomanlaw16_KscParts.Pure := by
  intro a b c u _ _ _ hu
  have hu' := bounds_i32 hu
  refine ⟨1, ?_⟩
  unfold dragomanlaw16_KscParts.f
  by_cases ht : Three a b c
  · have hs : 44032 ≤ 44032 + (a * 21 + b) * 28 + c ∧ 44032 + (a * 21 + b) * 28 + c < 55204 := by unfold Three at ht; omega
    have e1 : (44032 + (a * 21 + b) * 28 + c - 44032) / 588 = a := by unfold Three at ht; omega
    have e2 : (44032 + (a * 21 + b) * 28 + c - 44032) / 28 % 21 = b := by unfold Three at ht; omega
    have e3 : (44032 + (a * 21 + b) * 28 + c - 44032) % 28 = c := by unfold Three at ht; omega
    have hp := parts_yes hs
    rw [e1, e2, e3] at hp
    by_cases hr : 44032 ≤ u ∧ u < 55204
    · have h3 : Three ((u - 44032) / 588) ((u - 44032) / 28 % 21) ((u - 44032) % 28) := by unfold Three; omega
      have e4 : 44032 + ((u - 44032) / 588 * 21 + (u - 44032) / 28 % 21) * 28 + (u - 44032) % 28 = u := by omega
      have hq := syl_yes h3
      rw [e4] at hq
      simp [syl_yes ht, rsyl_yes ht, parts_yes hr, rparts_yes hr, dragomanlaw16_KscParts.j0, hp, hq]
    · have hq : ksc_Syllable.f 0 0 0 = some (44032, true) := syl_yes (a := 0) (b := 0) (c := 0) (by decide)
      simp [syl_yes ht, rsyl_yes ht, parts_no hu' hr, rparts_no hr, dragomanlaw16_KscParts.j0, hp, hq]
  · by_cases hr : 44032 ≤ u ∧ u < 55204
    · have h3 : Three ((u - 44032) / 588) ((u - 44032) / 28 % 21) ((u - 44032) % 28) := by unfold Three; omega
      have e4 : 44032 + ((u - 44032) / 588 * 21 + (u - 44032) / 28 % 21) * 28 + (u - 44032) % 28 = u := by omega
      have hq := syl_yes h3
      rw [e4] at hq
      simp [syl_no ht, rsyl_no ht, parts_yes hr, rparts_yes hr, dragomanlaw16_KscParts.j0, hq]
    · have hq : ksc_Syllable.f 0 0 0 = some (44032, true) := syl_yes (a := 0) (b := 0) (c := 0) (by decide)
      simp [syl_no ht, rsyl_no ht, parts_no hu' hr, rparts_no hr, dragomanlaw16_KscParts.j0, hq]

end Go.Proofs.Ytadhfojgifhjcaa.Pure
