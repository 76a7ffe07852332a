/- JohabPacks, walked. -/
import Derived.Test.YtdihghjjinlaaaaDoorJUnp
import Derived.Test.YtdihghjjinlaaaaDoorJRefPack
import Derived.Test.YtdihghjjinlaaaaDoorPJohabGetsx
namespace Go.Proofs.YtdihghjjinlaaaaDoor.J
open Go.RowKit Go.Proofs.YtdihghjjinlaaaaDoorW.PrintWords Go.Proofs.YtdihghjjinlaaaaDoorW.PrintLast Go.Proofs.YtdihghjjinlaaaaDoorW.PrintMore
open Go.Proofs.YtdihghjjinlaaaaDoor.PJohabGets
theorem place_mid (x : Int) (h0 : 0 ≤ x) (h1 : x < 32) : dragomanref19_place.f 40 mid x = some (im x) := by
  obtain ⟨n, rfl⟩ := Int.eq_ofNat_of_zero_le h0
  have : ∀ n : Nat, n < 32 → dragomanref19_place.f 40 mid (n : Int) = some (im (n : Int)) := by decide +kernel
  exact this n (by omega)
theorem place_las (x : Int) (h0 : 0 ≤ x) (h1 : x < 32) : dragomanref19_place.f 40 las x = some (il x) := by
  obtain ⟨n, rfl⟩ := Int.eq_ofNat_of_zero_le h0
  have : ∀ n : Nat, n < 32 → dragomanref19_place.f 40 las (n : Int) = some (il (n : Int)) := by decide +kernel
  exact this n (by omega)
theorem refSyl_is (a b c : Int) : dragomanref16_Syllable.f a b c = some (if Ok a b c then (syl a b c, true) else (0, false)) := by
  unfold dragomanref16_Syllable.f
  by_cases h1 : a < 0
  · rw [if_pos h1, if_neg (by unfold Ok; omega)]
  rw [if_neg h1]
  by_cases h2 : a > 18
  · rw [if_pos h2, if_neg (by unfold Ok; omega)]
  rw [if_neg h2]
  by_cases h3 : b < 0
  · rw [if_pos h3, if_neg (by unfold Ok; omega)]
  rw [if_neg h3]
  by_cases h4 : b > 20
  · rw [if_pos h4, if_neg (by unfold Ok; omega)]
  rw [if_neg h4]
  by_cases h5 : c < 0
  · rw [if_pos h5, if_neg (by unfold Ok; omega)]
  rw [if_neg h5]
  by_cases h6 : c > 27
  · rw [if_pos h6, if_neg (by unfold Ok; omega)]
  rw [if_neg h6, if_pos (by unfold Ok; omega)]
  congr 2
  unfold syl wrap32 wrap64
  omega
theorem refSylC_not {a b c : Int} (w : World) (ho : ¬ Ok a b c) : Calls Tryd.prog 19 #[.int .i64 a, .int .i64 b, .int .i64 c] w fun e w' => e = .returned (.tuple #[.int .i32 0, .bool false]) ∧ Drawn0 w w' :=
  dragomanref16_Syllable.calls a b c _ _ w (by rw [refSyl_is, if_neg ho])
theorem unpack_is (n : Int) (hn : (Lit.int .i64 n).wf = true) : dragomanref19_Unpack.f 41 n = some (if Code n then (ua n, ub n, uc n, true) else (0, 0, 0, false)) := by
  have hb := bounds_i64 hn
  unfold dragomanref19_Unpack.f
  by_cases h1 : n < 32768
  · rw [if_pos h1, dragomanref19_Unpack.j0, if_pos rfl, if_neg (fun h => by have := h.1.1; omega)]
  · rw [if_neg h1]
    by_cases h2 : n > 65535
    · rw [decide_eq_true h2, dragomanref19_Unpack.j0, if_pos rfl, if_neg (fun h => by have := h.1.2; omega)]
    · rw [decide_eq_false h2, dragomanref19_Unpack.j0, if_neg (by decide)]
      have w1 : wrap64 (n - 32768) = n - 32768 := by unfold wrap64; omega
      have t1 : Int.tdiv (n - 32768) 32 = (n - 32768) / 32 := Int.tdiv_eq_ediv_of_nonneg (by omega)
      have w2 : wrap64 ((n - 32768) / 32) = (n - 32768) / 32 := by unfold wrap64; omega
      have t2 : Int.tmod ((n - 32768) / 32) 32 = n / 32 % 32 := by rw [Int.tmod_eq_emod_of_nonneg (by omega)]; omega
      have t3 : Int.tmod (n - 32768) 32 = n % 32 := by rw [Int.tmod_eq_emod_of_nonneg (by omega)]; omega
      have t4 : Int.tdiv (n - 32768) 1024 = (n - 32768) / 1024 := Int.tdiv_eq_ediv_of_nonneg (by omega)
      have w3 : wrap64 ((n - 32768) / 1024) = (n - 32768) / 1024 := by unfold wrap64; omega
      have w4 : wrap64 ((n - 32768) / 1024 - 2) = ua n := by unfold ua wrap64; omega
      rw [w1, t1, w2, t2, t3, t4, w3, w4]
      show (dragomanref19_place.f 40 mid (n / 32 % 32)).bind _ = _
      rw [place_mid _ (by omega) (by omega)]
      show (dragomanref19_place.f 40 las (n % 32)).bind _ = _
      rw [place_las _ (by omega) (by omega)]
      show (dragomanref16_Syllable.f (ua n) (ub n) (uc n)).bind _ = _
      rw [refSyl_is]
      by_cases ho : Ok (ua n) (ub n) (uc n)
      · rw [if_pos ho, if_pos ⟨⟨by omega, by omega⟩, ho⟩]
        rfl
      · rw [if_neg ho, if_neg (fun h => ho h.2)]
        rfl
theorem refUnpackC (n : Int) (w : World) (hn : (Lit.int .i64 n).wf = true) (h : Code n) : Calls Tryd.prog 12 #[.int .i64 n] w fun e w' => e = .returned (.tuple #[.int .i64 (ua n), .int .i64 (ub n), .int .i64 (uc n), .bool true]) ∧ Below w.heap.size w w' :=
  dragomanref19_Unpack.calls 41 n _ _ _ _ w (by rw [unpack_is n hn, if_pos h])
theorem refUnpackC_not (n : Int) (w : World) (hn : (Lit.int .i64 n).wf = true) (h : ¬ Code n) : Calls Tryd.prog 12 #[.int .i64 n] w fun e w' => e = .returned (.tuple #[.int .i64 0, .int .i64 0, .int .i64 0, .bool false]) ∧ Below w.heap.size w w' :=
  dragomanref19_Unpack.calls 41 n _ _ _ _ w (by rw [unpack_is n hn, if_neg h])
set_option maxRecDepth 100000 in
theorem refPackC_not {a b c : Int} (w : World) (ho : ¬ Ok a b c) : Calls Tryd.prog 10 #[.int .i64 a, .int .i64 b, .int .i64 c] w fun e w' => e = .returned (.tuple #[.int .i64 0, .bool false]) ∧ Below w.heap.size w w' := by
  have HO := Lib.hid ho
  clear ho
  go_enter Tryd.func10, Tryd.ntmps10
  go_wp2_with fail
  refine (refSylC_not _ HO.out).mono ?_
  rintro e w1 ⟨rfl, hd1⟩
  obtain ⟨⟨m1, rfl⟩⟩ := hd1
  go_wp2_with fail
  go_ret2
  exact ⟨rfl, pw_below_drewN (Below.refl _ _) _⟩
theorem ok0 : Ok 0 0 0 := by decide
set_option maxRecDepth 100000 in
theorem packs_walk (w : World) (ht : Tab w) (a : Int) (_ : (Lit.int .i64 a).wf = true) (b : Int) (_ : (Lit.int .i64 b).wf = true) (c : Int) (_ : (Lit.int .i64 c).wf = true) (n : Int) (hn : (Lit.int .i64 n).wf = true) :
    Calls Tryd.prog 3 #[.int .i64 a, .int .i64 b, .int .i64 c, .int .i64 n] w fun e w' => e = .returned (.bool true) ∧ Below w.heap.size w w' := by
  have HT := Lib.hid ht
  have HN := Lib.hid hn
  clear ht hn
  by_cases ho : Ok a b c
  · by_cases hcd : Code n
    · have HO := Lib.hid ho
      have HU := Lib.hid (code_unpack ho)
      have HC := Lib.hid hcd
      have HK := Lib.hid (unpack_code hcd)
      clear ho hcd
      go_enter Tryd.func3, Tryd.ntmps3
      go_wp2_with fail
      refine (packC _ HT.out HO.out).mono ?_
      rintro e w1 ⟨rfl, hb1⟩
      have HB1 : Hid (Below w.heap.size w w1) := hb1
      clear hb1
      go_wp2_with fail
      refine (refPackC _ HO.out).mono ?_
      rintro e w2 ⟨rfl, hb2⟩
      have HB2 : Hid (Below w.heap.size w w2) := on HB1.out hb2
      clear hb2
      go_wp2_with fail
      refine (unpackC n _ (HT.out.below HB2.out) HC.out).mono ?_
      rintro e w3 ⟨rfl, hb3⟩
      have HB3 : Hid (Below w.heap.size w w3) := on HB2.out hb3
      clear hb3
      go_wp2_with fail
      refine (refUnpackC n _ HN.out HC.out).mono ?_
      rintro e w4 ⟨rfl, hb4⟩
      have HB4 : Hid (Below w.heap.size w w4) := on HB3.out hb4
      clear hb4
      go_wp2_with fail
      refine (unpackC (code a b c) _ (HT.out.below HB4.out) HU.out.1).mono ?_
      rw [HU.out.2.1, HU.out.2.2.1, HU.out.2.2.2]
      rintro e w5 ⟨rfl, hb5⟩
      have HB5 : Hid (Below w.heap.size w w5) := on HB4.out hb5
      clear hb5
      go_wp2_with fail
      refine (packC _ (HT.out.below HB5.out) HC.out.2).mono ?_
      rw [HK.out]
      rintro e w6 ⟨rfl, hb6⟩
      have HB6 : Hid (Below w.heap.size w w6) := on HB5.out hb6
      clear hb6
      go_wp2_with fail
      go_ret
      exact ⟨rfl, HB6.out⟩
    · have HO := Lib.hid ho
      have HU := Lib.hid (code_unpack ho)
      have HC : Hid (¬ Code n) := hcd
      clear ho hcd
      go_enter Tryd.func3, Tryd.ntmps3
      go_wp2_with fail
      refine (packC _ HT.out HO.out).mono ?_
      rintro e w1 ⟨rfl, hb1⟩
      have HB1 : Hid (Below w.heap.size w w1) := hb1
      clear hb1
      go_wp2_with fail
      refine (refPackC _ HO.out).mono ?_
      rintro e w2 ⟨rfl, hb2⟩
      have HB2 : Hid (Below w.heap.size w w2) := on HB1.out hb2
      clear hb2
      go_wp2_with fail
      refine (unpackC_not n _ (HT.out.below HB2.out) HN.out HC.out).mono ?_
      rintro e w3 ⟨rfl, hb3⟩
      have HB3 : Hid (Below w.heap.size w w3) := on HB2.out hb3
      clear hb3
      go_wp2_with fail
      refine (refUnpackC_not n _ HN.out HC.out).mono ?_
      rintro e w4 ⟨rfl, hb4⟩
      have HB4 : Hid (Below w.heap.size w w4) := on HB3.out hb4
      clear hb4
      go_wp2_with fail
      refine (unpackC (code a b c) _ (HT.out.below HB4.out) HU.out.1).mono ?_
      rw [HU.out.2.1, HU.out.2.2.1, HU.out.2.2.2]
      rintro e w5 ⟨rfl, hb5⟩
      have HB5 : Hid (Below w.heap.size w w5) := on HB4.out hb5
      clear hb5
      go_wp2_with fail
      refine (packC _ (HT.out.below HB5.out) ok0).mono ?_
      rintro e w6 ⟨rfl, hb6⟩
      have HB6 : Hid (Below w.heap.size w w6) := on HB5.out hb6
      clear hb6
      go_wp2_with fail
      go_ret
      exact ⟨rfl, HB6.out⟩
  · by_cases hcd : Code n
    · have HO : Hid (¬ Ok a b c) := ho
      have HC := Lib.hid hcd
      have HK := Lib.hid (unpack_code hcd)
      clear ho hcd
      go_enter Tryd.func3, Tryd.ntmps3
      go_wp2_with fail
      refine (packC_not _ HO.out).mono ?_
      rintro e w1 ⟨rfl, hb1⟩
      have HB1 : Hid (Below w.heap.size w w1) := hb1
      clear hb1
      go_wp2_with fail
      refine (refPackC_not _ HO.out).mono ?_
      rintro e w2 ⟨rfl, hb2⟩
      have HB2 : Hid (Below w.heap.size w w2) := on HB1.out hb2
      clear hb2
      go_wp2_with fail
      refine (unpackC n _ (HT.out.below HB2.out) HC.out).mono ?_
      rintro e w3 ⟨rfl, hb3⟩
      have HB3 : Hid (Below w.heap.size w w3) := on HB2.out hb3
      clear hb3
      go_wp2_with fail
      refine (refUnpackC n _ HN.out HC.out).mono ?_
      rintro e w4 ⟨rfl, hb4⟩
      have HB4 : Hid (Below w.heap.size w w4) := on HB3.out hb4
      clear hb4
      go_wp2_with fail
      refine (packC _ (HT.out.below HB4.out) HC.out.2).mono ?_
      rw [HK.out]
      rintro e w5 ⟨rfl, hb5⟩
      have HB5 : Hid (Below w.heap.size w w5) := on HB4.out hb5
      clear hb5
      go_wp2_with fail
      go_ret
      exact ⟨rfl, HB5.out⟩
    · have HO : Hid (¬ Ok a b c) := ho
      have HC : Hid (¬ Code n) := hcd
      clear ho hcd
      go_enter Tryd.func3, Tryd.ntmps3
      go_wp2_with fail
      refine (packC_not _ HO.out).mono ?_
      rintro e w1 ⟨rfl, hb1⟩
      have HB1 : Hid (Below w.heap.size w w1) := hb1
      clear hb1
      go_wp2_with fail
      refine (refPackC_not _ HO.out).mono ?_
      rintro e w2 ⟨rfl, hb2⟩
      have HB2 : Hid (Below w.heap.size w w2) := on HB1.out hb2
      clear hb2
      go_wp2_with fail
      refine (unpackC_not n _ (HT.out.below HB2.out) HN.out HC.out).mono ?_
      rintro e w3 ⟨rfl, hb3⟩
      have HB3 : Hid (Below w.heap.size w w3) := on HB2.out hb3
      clear hb3
      go_wp2_with fail
      refine (refUnpackC_not n _ HN.out HC.out).mono ?_
      rintro e w4 ⟨rfl, hb4⟩
      have HB4 : Hid (Below w.heap.size w w4) := on HB3.out hb4
      clear hb4
      go_wp2_with fail
      refine (packC _ (HT.out.below HB4.out) ok0).mono ?_
      rintro e w5 ⟨rfl, hb5⟩
      have HB5 : Hid (Below w.heap.size w w5) := on HB4.out hb5
      clear hb5
      go_wp2_with fail
      go_ret
      exact ⟨rfl, HB5.out⟩
end Go.Proofs.YtdihghjjinlaaaaDoor.J
