/- dragomanlaw19.works, walked. -/
import Derived.Test.YtdihghjjinlaaaaDoorJGet
namespace Go.Proofs.YtdihghjjinlaaaaDoor.J
open Go.RowKit Go.Proofs.YtdihghjjinlaaaaDoorW.PrintWords Go.Proofs.YtdihghjjinlaaaaDoorW.PrintLast Go.Proofs.YtdihghjjinlaaaaDoorW.PrintMore
theorem litC (W : World) (l : List Int) (hl : l.length ≤ 1000) : Kd.C (Kd.int .u8) (W.alloc (.cells (nums .u8 l).toArray 5)) (some ⟨W.heap.size, 0, none⟩) l.length l := by
  obtain ⟨A, c, e, h⟩ := own_reads (own_lit W 0 5 .u8 l (Nat.zero_le _) (by omega))
  cases e
  exact Kd.C_of_reads (d := (0 : Int)) h
theorem bytes_ga : strOfNums [code (fa 44032) (fb 44032) (fc 44032) / 256, code (fa 44032) (fb 44032) (fc 44032) % 256] = ⟨#[136, 97]⟩ := by kernel_rfl
theorem code_hih : Code (211 * 256 + 189) := by decide +kernel
theorem code_ga : Code (136 * 256 + 97) := by decide +kernel
theorem code_no : ¬ Code (136 * 256 + 96) := by decide +kernel
theorem syl_hih : syl (ua (211 * 256 + 189)) (ub (211 * 256 + 189)) (uc (211 * 256 + 189)) = 55203 := by decide +kernel
theorem got_hih : GotIs [211, 189] 0 2 1 55203 := by
  have h := GotIs.two 211 189 [] (by decide) (by decide) (by decide) (by decide) ⟨189, by decide, code_hih⟩ code_hih
  rw [syl_hih] at h
  exact h
theorem got_no : GotIs [136, 96] 10 2 0 0 := GotIs.ill 136 96 [] (by decide) (by decide) (by decide) (by decide) ⟨97, by decide, code_ga⟩ code_no
set_option maxRecDepth 100000 in
theorem worksC (w : World) (ht : Tab w) : Calls Tryd.prog 17 #[] w fun e w' => e = .returned (.bool true) ∧ Below w.heap.size w w' := by
  have HT := Lib.hid ht
  clear ht
  go_enter Tryd.func17, Tryd.ntmps17
  go_wp2_with fail
  refine (set_syl 44032 _ (by decide) HT.out).mono ?_
  rintro e w1 ⟨rfl, hb1⟩
  have HB1 : Hid (Below w.heap.size w w1) := hb1
  clear hb1
  rw [bytes_ga]
  go_wp2_with fail
  refine (getC _ 2 [211, 189] _ _ _ _ _ (tab_alloc (HT.out.below HB1.out) _) (litC w1 [211, 189] (by decide)) got_hih).mono ?_
  rintro e w2 ⟨rfl, hb2⟩
  have HB2 : Hid (Below w.heap.size w w2) := on (below_alloc HB1.out _) hb2
  clear hb2
  go_wp2_with fail
  refine (getC _ 2 [136, 96] _ _ _ _ _ (tab_alloc (HT.out.below HB2.out) _) (litC w2 [136, 96] (by decide)) got_no).mono ?_
  rintro e w3 ⟨rfl, hb3⟩
  have HB3 : Hid (Below w.heap.size w w3) := on (below_alloc HB2.out _) hb3
  clear hb3
  go_wp2_with fail
  go_ret
  exact ⟨rfl, HB3.out⟩
end Go.Proofs.YtdihghjjinlaaaaDoor.J
