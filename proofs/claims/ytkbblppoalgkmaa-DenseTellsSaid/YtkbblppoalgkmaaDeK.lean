/- works of layer 7, and DenseBack, walked. -/
import Derived.Test.YtkbblppoalgkmaaDeB
namespace Go.Proofs.Ytkbblppoalgkmaa.De
open Go.RowKit Go.Maps Go.Proofs.YtkbblppoalgkmaaW.PrintWords Go.Proofs.YtkbblppoalgkmaaW.PrintLast Go.Proofs.YtkbblppoalgkmaaW.PrintMore
set_option linter.unusedVariables false
set_option linter.unusedSimpArgs false
abbrev wtext : ByteArray := ⟨#[97, 195, 164, 239, 191, 189, 97]⟩
theorem wrunes : runes wtext = [97, 228, 65533, 97] := by decide +kernel
theorem werr : errOf 128 wtext = 0 := by decide +kernel
set_option maxHeartbeats 2000000 in
theorem worksC (w : World) : Calls Try.prog 6 #[] w fun e w' => e = .returned (.bool true) ∧ Below w.heap.size w w' := by
  have HN := Lib.hid (newC 128 wtext w (by decide))
  go_enter Try.func6, Try.ntmps6
  go_wp2_with fail
  refine HN.out.mono ?_
  rintro e w1 ⟨hb, h⟩
  rcases h with ⟨h, _⟩ | ⟨_, g, rfl, ht⟩
  · exact absurd werr h
  have HB := Lib.hid hb
  rw [wrunes] at ht
  have HT := Lib.hid ht
  clear hb ht HN
  go_wp2_with fail
  refine (scalarC HT.out (by decide) 129 (by decide)).mono ?_
  rw [show scalF 128 [97, 228, 65533, 97] 129 = 228 by decide, show scalOk 128 [97, 228, 65533, 97] 129 = true by decide]
  rintro e w2 ⟨rfl, rfl⟩
  go_wp2_with fail
  refine (byteC HT.out 97 (by decide)).mono ?_
  rw [show byteF 128 [97, 228, 65533, 97] 97 = 128 by decide, show bOk [97, 228, 65533, 97] 97 = true by decide]
  rintro e w3 ⟨rfl, rfl⟩
  go_wp2_with fail
  refine (scalarC HT.out (by decide) 130 (by decide)).mono ?_
  rw [show scalF 128 [97, 228, 65533, 97] 130 = 0 by decide, show scalOk 128 [97, 228, 65533, 97] 130 = false by decide]
  rintro e w4 ⟨rfl, rfl⟩
  go_wp2_with fail
  go_ret
  exact ⟨rfl, HB.out⟩
end Go.Proofs.Ytkbblppoalgkmaa.De
