/- works of layer 2, walked. -/
import Derived.Test.YtadhfojgifhjcaaFlU
import Derived.Lib.SlBytesConst
namespace Go.Proofs.Ytadhfojgifhjcaa.Fl
open Go.RowKit Go.Proofs.YtadhfojgifhjcaaW.PrintWords Go.Proofs.YtadhfojgifhjcaaW.PrintLast Go.Proofs.YtadhfojgifhjcaaW.PrintMore
set_option linter.unusedVariables false
set_option linter.unusedSimpArgs false
theorem newOut3 (w : World) : Calls Try.prog 15 #[.int .i64 3] w fun e w' => e = .returned (.pointer (some ⟨w.heap.size, 0, none⟩)) ∧ w' = w.alloc (.cells #[.slice none 0 0, .int .i64 3] 66) := newOutC 3 w
theorem abcC (w : World) : Kd.C (Kd.int .u8) (w.alloc (.cells #[.int .u8 97, .int .u8 98, .int .u8 99] 5 (3, 4))) (some ⟨w.heap.size, 0, none⟩) ([97, 98, 99] : List Int).length [97, 98, 99] := by
  refine Kd.C_of_reads (d := (0 : Int)) ⟨rfl, by simp, fun _ => ⟨_, rfl, fun j hj => ?_⟩⟩
  have hh : (w.alloc (.cells #[.int .u8 97, .int .u8 98, .int .u8 99] 5 (3, 4))).heap[w.heap.size]? = some (.cells #[.int .u8 97, .int .u8 98, .int .u8 99] 5 (3, 4)) := by
    show (w.heap.push _)[w.heap.size]? = _
    simp
  have hj3 : j < 3 := hj
  rw [add_plain]
  simp only [World.cell?, hh]
  match j, hj3 with
  | 0, _ | 1, _ | 2, _ => rfl
set_option maxHeartbeats 4000000 in
set_option maxRecDepth 100000 in
theorem worksC (w : World) : Calls Try.prog 31 #[] w fun e w' => e = .returned (.bool true) ∧ Below w.heap.size w w' := by
  obtain ⟨l, hl⟩ : ∃ l : List Int, l = [97, 98, 99] := ⟨_, rfl⟩
  have HL := Lib.hid hl
  have kc := fun (w : World) (C : Array Value) (n c : Nat) => Lib.run_convert_bytes_const (P := Try.prog) w 31 5 C n c Try.underlying31 Try.underlying5
  go_enter Try.func31, Try.ntmps31
  go_wp2_with fail
  clear kc
  refine (newInC (some ⟨w.heap.size, 0, none⟩) 3 [97, 98, 99] _ (abcC w) (by simp)).mono ?_
  rw [← hl]
  rintro e w4 ⟨g1, A4, c4, rfl, hg4, ho4, hl4, hb4⟩
  have hbi : Below w.heap.size w w4 := below_step (below_alloc (Below.refl _ _) _) hb4
  have HT := Lib.hid (new_two hbi 3 (by omega) (by omega) (by rw [hl]; simp) hg4 (own_less ho4 (by simp)) (by simp at hl4; omega))
  clear hbi hg4 ho4 hl4 hb4
  go_wp2_with fail
  refine (newOut3 _).mono ?_
  rintro e w5 ⟨rfl, rfl⟩
  generalize w4.alloc (.cells #[.slice none 0 0, .int .i64 3] 66) = W5 at *
  generalize w4.heap.size = g2 at *
  go_wp2_with fail
  have hlen : l.length = 3 := by rw [hl]; rfl
  have HLEN := Lib.hid hlen
  clear hlen hl
  obtain ⟨xs, hxs⟩ : ∃ xs, xs = (l.drop 0).take 2 := ⟨_, rfl⟩
  have hp := peek_t HT.out 2 2 (by have := HLEN.out; omega)
  rw [← hxs] at hp
  have HP := Lib.hid hp
  have HXS : Hid (strOfNums xs = ⟨#[97, 98]⟩) := Lib.hid (by rw [hxs, HL.out]; rfl)
  clear hp hxs
  refine HP.out.mono ?_
  rintro e w6 ⟨A6, c6, rfl, hcv, h6⟩
  have hc6 : (convert 31 9 (.slice A6 xs.length c6)).run Try.prog w6 = .ok (.string ⟨#[97, 98]⟩) w6 := by
    rw [hcv w6 (Below.refl _ _), HXS.out]
  have HT6 := Lib.hid h6
  clear hcv h6 HT
  go_wp2_with fail
  refine (skip_t HT6.out 2 (by have := HLEN.out; omega)).mono ?_
  rintro e w7 ⟨rfl, h7⟩
  have HT7 : Hid (Two w w7 g1 g2 l 2 3 []) := Lib.hid h7
  clear h7 HT6 hc6
  go_wp2_with fail
  obtain ⟨ys, hys⟩ : ∃ ys, ys = (l.drop 2).take 1 := ⟨_, rfl⟩
  have hp := peek_t HT7.out 5 1 (by have := HLEN.out; omega)
  rw [← hys] at hp
  have HP2 := Lib.hid hp
  have HYS : Hid (strOfNums ys = ⟨#[99]⟩) := Lib.hid (by rw [hys, HL.out]; rfl)
  clear hp hys
  refine HP2.out.mono ?_
  rintro e w8 ⟨A8, c8, rfl, hcv, h8⟩
  have hc8 : (convert 31 9 (.slice A8 ys.length c8)).run Try.prog w8 = .ok (.string ⟨#[99]⟩) w8 := by
    rw [hcv w8 (Below.refl _ _), HYS.out]
  have HT8 := Lib.hid h8
  clear hcv h8 HT7
  go_wp2_with fail
  refine (skip_t_no HT8.out 2 (by have := HLEN.out; omega)).mono ?_
  rintro e w9 ⟨rfl, n9, rfl⟩
  have HT9 := Lib.hid (HT8.out.drewN n9)
  generalize w8.drewN n9 = W9 at HT9 ⊢
  clear hc8 HT8
  go_wp2_with fail
  refine (at_t HT9.out).mono ?_
  rintro e w10 ⟨rfl, n10, rfl⟩
  have HT10 := Lib.hid (HT9.out.drewN n10)
  generalize W9.drewN n10 = W10 at HT10 ⊢
  clear HT9
  go_wp2_with fail
  refine (put_t HT10.out ⟨#[97, 98]⟩ [97, 98] rfl (by decide)).mono ?_
  rintro e w11 ⟨rfl, h11⟩
  have HT11 := Lib.hid h11
  clear h11 HT10
  go_wp2_with fail
  refine (put_t_no HT11.out ⟨#[99, 100]⟩ (by decide) (by decide)).mono ?_
  rintro e w12 ⟨rfl, n12, rfl⟩
  have HT12 := Lib.hid (HT11.out.drewN n12)
  generalize w11.drewN n12 = W12 at HT12 ⊢
  clear HT11
  go_wp2_with fail
  refine (room_t HT12.out).mono ?_
  rw [show (3 : Int) - ((([97, 98] : List Int).length : Nat) : Int) = 1 from by decide]
  rintro e w13 ⟨rfl, n13, rfl⟩
  have HT13 := Lib.hid (HT12.out.drewN n13)
  generalize W12.drewN n13 = W13 at HT13 ⊢
  clear HT12
  go_wp2_with fail
  go_ret
  exact ⟨rfl, HT13.out.bel⟩
end Go.Proofs.Ytadhfojgifhjcaa.Fl
