/- The reference's Johab: its tables and code, walked. -/
import Derived.Test.YtdihghjjinlaaaaDoorJSet
import Derived.Deep.RegionWith
import Derived.Deep.DeepCutAuto
namespace Go.Proofs.YtdihghjjinlaaaaDoor.J
open Go.RowKit Go.Proofs.YtdihghjjinlaaaaDoorW.PrintWords Go.Proofs.YtdihghjjinlaaaaDoorW.PrintLast Go.Proofs.YtdihghjjinlaaaaDoorW.PrintMore
def midO : Obj := .cells (nums .i64 mid).toArray 3
def lasO : Obj := .cells (nums .i64 las).toArray 3
theorem nums_at (l : List Int) (j : Nat) (h : j < l.length) : (nums .i64 l).toArray[j]? = some (.int .i64 (rd l (j : Int))) := by
  simp [nums, rd, List.getD_eq_getElem?_getD, List.getElem?_eq_getElem h]
theorem mid_cell (W : World) (j : Nat) (h : j < 21) : (W.alloc midO).cell? ⟨W.heap.size, j, none⟩ = some (.int .i64 (rd mid (j : Int))) :=
  (blk_cell (heap_alloc_new W _) j).trans (nums_at mid j h)
theorem las_cell (W : World) (j : Nat) (h : j < 28) : (W.alloc lasO).cell? ⟨W.heap.size, j, none⟩ = some (.int .i64 (rd las (j : Int))) :=
  (blk_cell (heap_alloc_new W _) j).trans (nums_at las j h)
set_option maxRecDepth 100000 in
theorem midC (w : World) : Calls Tryd.prog 20 #[] w fun e w' => e = .returned (.slice (some ⟨w.heap.size, 0, none⟩) 21 21) ∧ w' = w.alloc midO := by
  go_enter Tryd.func20, Tryd.ntmps20
  go_wp2_with fail
  go_ret
  exact ⟨rfl, rfl⟩
set_option maxRecDepth 100000 in
theorem lasC (w : World) : Calls Tryd.prog 21 #[] w fun e w' => e = .returned (.slice (some ⟨w.heap.size, 0, none⟩) 28 28) ∧ w' = w.alloc lasO := by
  go_enter Tryd.func21, Tryd.ntmps21
  go_wp2_with fail
  go_ret
  exact ⟨rfl, rfl⟩
set_option maxRecDepth 100000 in
theorem refSylC {a b c : Int} (w : World) (ho : Ok a b c) : Calls Tryd.prog 19 #[.int .i64 a, .int .i64 b, .int .i64 c] w fun e w' => e = .returned (.tuple #[.int .i32 (syl a b c), .bool true]) ∧ Below w.heap.size w w' := by
  have HO := Lib.hid ho
  obtain ⟨⟨a1, a2⟩, ⟨b1, b2⟩, c1, c2⟩ := ho
  have he : 44032 + a * 588 + b * 28 + c = syl a b c := by unfold syl; omega
  go_enter Tryd.func19, Tryd.ntmps19
  go_wp2_with fail
  go_ret2
  exact ⟨rfl, Below.refl _ _⟩
set_option maxRecDepth 100000 in
set_option maxHeartbeats 8000000 in
theorem refPackC {a b c : Int} (w : World) (ho : Ok a b c) : Calls Tryd.prog 10 #[.int .i64 a, .int .i64 b, .int .i64 c] w fun e w' => e = .returned (.tuple #[.int .i64 (code a b c), .bool true]) ∧ Below w.heap.size w w' := by
  have HO := Lib.hid ho
  clear ho
  go_enter Tryd.func10, Tryd.ntmps10
  go_wp2_with fail
  refine (refSylC _ HO.out).mono ?_
  rintro e w1 ⟨rfl, hb1⟩
  obtain ⟨⟨a1, a2⟩, ⟨b1, b2⟩, c1, c2⟩ := HO.out
  obtain ⟨j, rfl⟩ := Int.eq_ofNat_of_zero_le b1
  obtain ⟨l, rfl⟩ := Int.eq_ofNat_of_zero_le c1
  have HB1 : Hid (Below w.heap.size w w1) := hb1
  have m1 := mid_cell w1 j (by omega)
  have l1 := las_cell w1 l (by omega)
  have m2 : ((w1.alloc midO).alloc lasO).cell? ⟨w1.heap.size, j, none⟩ = some (.int .i64 (rd mid (j : Int))) := ((below_alloc (Below.refl _ (w1.alloc midO)) lasO).cell (p := ⟨w1.heap.size, j, none⟩) (by simp)).trans m1
  have l2 : ((w1.alloc lasO).alloc midO).cell? ⟨w1.heap.size, l, none⟩ = some (.int .i64 (rd las (l : Int))) := ((below_alloc (Below.refl _ (w1.alloc lasO)) midO).cell (p := ⟨w1.heap.size, l, none⟩) (by simp)).trans l1
  have l3 : ((w1.alloc midO).alloc lasO).cell? ⟨w1.heap.size + 1, l, none⟩ = some (.int .i64 (rd las (l : Int))) := by
    have := las_cell (w1.alloc midO) l (by omega)
    rwa [show (w1.alloc midO).heap.size = w1.heap.size + 1 by simp] at this
  have m3 : ((w1.alloc lasO).alloc midO).cell? ⟨w1.heap.size + 1, j, none⟩ = some (.int .i64 (rd mid (j : Int))) := by
    have := mid_cell (w1.alloc lasO) j (by omega)
    rwa [show (w1.alloc lasO).heap.size = w1.heap.size + 1 by simp] at this
  have bm := mid_bd j (by omega)
  have bl := las_bd l (by omega)
  clear hb1
  go_upto_region 4 with fail
  go_cut [6, 7] from 19 to 33 (fun s t wx => s = .int .i64 (code a j l) ∧ t = .bool true ∧ Hid (Below w.heap.size w wx))
  case first =>
    go_region_with (first | (go_at_call 20; refine (midC _).mono ?_; rintro e wm ⟨rfl, rfl⟩) | (go_at_call 21; refine (lasC _).mono ?_; rintro e wm ⟨rfl, rfl⟩))
    all_goals
      go_wp2_with fail
      go_meet
      exact ⟨by unfold code; simp only [IntKind.wrap_i64]; congr 1; omega, rfl, by repeat (first | exact HB1.out | apply below_alloc | apply below_drew1 | apply pw_below_drewN)⟩
  case rest =>
    obtain ⟨rfl, rfl, HBc⟩ := hcut
    go_wp2_with fail
    go_ret2
    exact ⟨rfl, HBc.out⟩
end Go.Proofs.YtdihghjjinlaaaaDoor.J
