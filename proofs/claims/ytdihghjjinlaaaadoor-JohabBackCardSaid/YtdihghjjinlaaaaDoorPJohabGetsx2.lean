-- PRINTED BY print.sh 35421559b90ae4d0a3588c463048766b98c2df88dd9212a6774a882060cdf62d: not written by this session
import Derived.Test.YtdihghjjinlaaaaDoorPJohabGetsx0
import Derived.Test.YtdihghjjinlaaaaDoorPJohabGetsx1
namespace Go.Proofs.YtdihghjjinlaaaaDoor.PJohabGets
open Go.RowKit Go.Proofs.YtdihghjjinlaaaaDoorW.PrintWords Go.Proofs.YtdihghjjinlaaaaDoorW.PrintLast Go.Proofs.YtdihghjjinlaaaaDoorW.PrintMore
attribute [local go_sem] max2_int min2_int max_two min_two max_three min_three max_four min_four   -- for this text's walks alone
set_option linter.unusedVariables false
set_option linter.unusedSimpArgs false

/-! ### dragomanref19_Get: function 16 -/
def dragomanref19_Get.f (k : Nat) (l0 : List Int) : Option (Int × Int × Int × Int × Int × Int × Int × Int × Int) := if (l0.length : Int) = 0 then (some (1, 0, 0, 0, 0, 0, 0, 0, 0)) else (if 0 < (l0.length : Int) then (if (rd l0 0) = 92 then (some (0, 1, 1, 8361, 0, 0, 0, 0, 0)) else (if (rd l0 0) < 128 then (some (0, 1, 1, wrap32 (rd l0 0), 0, 0, 0, 0, 0)) else ((dragomanref19_begins.f k (rd l0 0)).bind fun t133 => (if t133 = true then (if (l0.length : Int) = 1 then (some (1, 0, 0, 0, 0, 0, 0, 0, 0)) else (if 1 < (l0.length : Int) then ((dragomanref19_Unpack.f k (wrap64 ((wrap64 ((wrap64 (rd l0 0)) * 256)) + (wrap64 (rd l0 1))))).bind fun bt136 => (if bt136.2.2.2 = true then ((dragomanref16_Syllable.f bt136.1 bt136.2.1 bt136.2.2.1).bind fun bt140 => (some (0, 2, 1, bt140.1, 0, 0, 0, 0, 0))) else (some (10, 2, 0, 0, 0, 0, 0, 0, 0)))) else (none))) else (some (10, 1, 0, 0, 0, 0, 0, 0, 0)))))) else (none))
theorem dragomanref19_Get.mono : ∀ a0 k, LeO (dragomanref19_Get.f k a0) (dragomanref19_Get.f (k + 1) a0) := by
  intro a0 k
  unfold dragomanref19_Get.f
  repeat' first
      | (with_reducible exact dragomanref19_Unpack.mono _ _)
      | (with_reducible exact dragomanref19_begins.mono _ _)
      | (with_reducible exact LeO.refl _)
      | (with_reducible exact LeO.none _)
      | (with_reducible refine LeO.ite ?_ ?_)
      | (with_reducible refine LeO.bind ?_ (fun _ => ?_))
      | exact dragomanref19_Unpack.mono _ _
      | exact dragomanref19_begins.mono _ _
      | exact LeO.none _
      | refine LeO.ite ?_ ?_
      | refine LeO.bind ?_ (fun _ => ?_)
def dragomanref19_Get.T11 : Bool × List (List Nat × List Nat) := (true, [([], []), ([0], [0]), ([1], [1]), ([2], [2]), ([3], [3]), ([], []), ([5], [5]), ([6], [6]), ([7], [7]), ([4, 8], [4, 8]), ([9], [9]), ([10], [10]), ([11], [11]), ([11], [11]), ([11], [11]), ([11], [11]), ([12, 10, 0, 1, 2, 3, 4, 5, 6, 7, 8, 9, 10, 11, 12], [12]), ([13, 16, 0, 1, 2, 3, 4, 5, 6, 7, 8, 9, 10, 11, 12, 13, 16], [13]), ([14, 17, 0, 1, 2, 3, 4, 5, 6, 7, 8, 9, 10, 11, 12, 13, 14, 16, 17], [14]), ([15, 18, 0, 1, 2, 3, 4, 5, 6, 7, 8, 9, 10, 11, 12, 13, 14, 15, 16, 17, 18], [15])])
def dragomanref19_Get.B11 : List Nat := [0, 1, 3, 7, 15, 0, 32, 96, 224, 511, 1023, 2047, 4095, 4095, 4095, 4095, 8191, 81919, 229375, 524287]
theorem dragomanref19_Get.tab11 : rtab .any (opsOf Tryd.f16 11) = dragomanref19_Get.T11 := by kernel_rfl
theorem dragomanref19_Get.bits11 : waitsOk dragomanref19_Get.T11.2 dragomanref19_Get.B11 = true := by kernel_rfl
set_option maxHeartbeats 8000000 in
set_option maxRecDepth 100000 in
theorem dragomanref19_Get.calls (k : Nat) (A0 : Option Addr) (c0 : Nat) (l0 : List Int) (r1 : Int) (r2 : Int) (r3 : Int) (r4 : Int) (r5 : Int) (r6 : Int) (r7 : Int) (r8 : Int) (r9 : Int) (w : World) (hr0 : Kd.C (Kd.int .u8) w A0 l0.length l0) (hc0 : l0.length ≤ c0) (h : dragomanref19_Get.f k l0 = some (r1, r2, r3, r4, r5, r6, r7, r8, r9)) :
    Calls Tryd.prog 16 #[.slice A0 l0.length c0] w fun e w' => e = .returned (.agg #[.int .i64 r1, .int .i64 r2, .int .i64 r3, .int .i32 r4, .int .i32 r5, .int .i64 r6, .int .i64 r7, .int .u32 r8, .int .i32 r9]) ∧ Below w.heap.size w w' := by
  have hu37 := Tryd.underlying37
  have HR0 := Aside0.mk hr0
  have HC0 := Aside0.mk hc0
  clear hr0 hc0
  have HB := Aside0.mk (Below.refl w.heap.size w)
  have H : (if (l0.length : Int) = 0 then (some (1, 0, 0, 0, 0, 0, 0, 0, 0)) else (if 0 < (l0.length : Int) then (if (rd l0 0) = 92 then (some (0, 1, 1, 8361, 0, 0, 0, 0, 0)) else (if (rd l0 0) < 128 then (some (0, 1, 1, wrap32 (rd l0 0), 0, 0, 0, 0, 0)) else ((dragomanref19_begins.f k (rd l0 0)).bind fun t133 => (if t133 = true then (if (l0.length : Int) = 1 then (some (1, 0, 0, 0, 0, 0, 0, 0, 0)) else (if 1 < (l0.length : Int) then ((dragomanref19_Unpack.f k (wrap64 ((wrap64 ((wrap64 (rd l0 0)) * 256)) + (wrap64 (rd l0 1))))).bind fun bt136 => (if bt136.2.2.2 = true then ((dragomanref16_Syllable.f bt136.1 bt136.2.1 bt136.2.2.1).bind fun bt140 => (some (0, 2, 1, bt140.1, 0, 0, 0, 0, 0))) else (some (10, 2, 0, 0, 0, 0, 0, 0, 0)))) else (none))) else (some (10, 1, 0, 0, 0, 0, 0, 0, 0)))))) else (none))) = some (r1, r2, r3, r4, r5, r6, r7, r8, r9) := h
  clear h
  by_cases c2 : (l0.length : Int) = 0
  · rw [if_pos c2] at H
    have c2b0 : ((l0.length : Int) == 0) = true := beq_iff_eq.mpr c2
    have c2b1 : ((l0.length : Int) != 0) = false := bne_eq_false_iff_eq.mpr c2
    clear c2
    simp only [Option.some.injEq, Prod.mk.injEq] at H
    obtain ⟨rfl, rfl, rfl, rfl, rfl, rfl, rfl, rfl, rfl⟩ := H
    go_enter Tryd.func16, Tryd.ntmps16
    go_wp2_with (first | ((with_reducible refine gate_dst (N := 2) rfl ?_); refine box_event ?hg (N := 2) ?hd (cs := #[.int .i64 0, .int .i64 0, .int .i64 0, .int .i32 0, .int .i32 0, .int .i64 0, .int .i64 0, .int .u32 0, .int .i32 0]) (t := 37) ?hr ?_; (case hd => rfl); (case hg => rfl); (case hr => first | (go_simp; done) | (go_simp; rfl)); intro gb128 hg w3 hbox hb; have n0_ := Aside0.mk (below_step (by repeat (first | (with_reducible first | exact HB.out | apply below_alloc | apply pw_below_drewN | apply below_drew1) | exact HB.out)) hb); have n1_ := Aside0.mk (hbox); have n2_ := Aside0.mk ((by rw [hg]; exact (below_size (by repeat (first | (with_reducible first | exact HB.out | apply below_alloc | apply pw_below_drewN | apply below_drew1) | exact HB.out))) : w.heap.size ≤ gb128)); have n3_ := Aside0.mk ((by rw [hg]; exact (below_size (by repeat (first | (with_reducible first | exact HB.out | apply below_alloc | apply pw_below_drewN | apply below_drew1) | exact HB.out))) : w.heap.size ≤ gb128)); clear HB; have HB := n0_; have BK128 := n1_; have GW128 := n2_; have GE128 := n3_; clear n0_ n1_ n2_ n3_; clear hb hbox hg; have hcz4_0 : w3.cell? ⟨gb128, 0, none⟩ = some (.int .i64 0) := (blk_cell BK128.out 0).trans rfl; have hcz4_1 : w3.cell? ⟨gb128, 1, none⟩ = some (.int .i64 0) := (blk_cell BK128.out 1).trans rfl; have hcz4_2 : w3.cell? ⟨gb128, 2, none⟩ = some (.int .i64 0) := (blk_cell BK128.out 2).trans rfl; have hcz4_3 : w3.cell? ⟨gb128, 3, none⟩ = some (.int .i32 0) := (blk_cell BK128.out 3).trans rfl; have hcz4_4 : w3.cell? ⟨gb128, 4, none⟩ = some (.int .i32 0) := (blk_cell BK128.out 4).trans rfl; have hcz4_5 : w3.cell? ⟨gb128, 5, none⟩ = some (.int .i64 0) := (blk_cell BK128.out 5).trans rfl; have hcz4_6 : w3.cell? ⟨gb128, 6, none⟩ = some (.int .i64 0) := (blk_cell BK128.out 6).trans rfl; have hcz4_7 : w3.cell? ⟨gb128, 7, none⟩ = some (.int .u32 0) := (blk_cell BK128.out 7).trans rfl; have hcz4_8 : w3.cell? ⟨gb128, 8, none⟩ = some (.int .i32 0) := (blk_cell BK128.out 8).trans rfl; have hfz4_0 := blk_frozen BK128.out 0; have hfz4_1 := blk_frozen BK128.out 1; have hfz4_2 := blk_frozen BK128.out 2; have hfz4_3 := blk_frozen BK128.out 3; have hfz4_4 := blk_frozen BK128.out 4; have hfz4_5 := blk_frozen BK128.out 5; have hfz4_6 := blk_frozen BK128.out 6; have hfz4_7 := blk_frozen BK128.out 7; have hfz4_8 := blk_frozen BK128.out 8))
    refine bodyPost_ret (results_cell_row rfl _ _ gb128 37 #[.int .i64 1, .int .i64 0, .int .i64 0, .int .i32 0, .int .i32 0, .int .i64 0, .int .i64 0, .int .u32 0, .int .i32 0] (0, 0) _ rfl (by (with_reducible repeat (first | refine blk_drewN ?_ _ | refine blk_drew ?_ | refine blk_alloc ?_ _)); refine blk_put (cs := #[.int .i64 1, .int .i64 0, .int .i64 0, .int .i32 0, .int .i32 0, .int .i64 0, .int .i64 0, .int .u32 0, .int .i32 0]) ?_ 8 _ rfl; (with_reducible repeat (first | refine blk_drewN ?_ _ | refine blk_drew ?_ | refine blk_alloc ?_ _)); refine blk_put (cs := #[.int .i64 1, .int .i64 0, .int .i64 0, .int .i32 0, .int .i32 0, .int .i64 0, .int .i64 0, .int .u32 0, .int .i32 0]) ?_ 7 _ rfl; (with_reducible repeat (first | refine blk_drewN ?_ _ | refine blk_drew ?_ | refine blk_alloc ?_ _)); refine blk_put (cs := #[.int .i64 1, .int .i64 0, .int .i64 0, .int .i32 0, .int .i32 0, .int .i64 0, .int .i64 0, .int .u32 0, .int .i32 0]) ?_ 6 _ rfl; (with_reducible repeat (first | refine blk_drewN ?_ _ | refine blk_drew ?_ | refine blk_alloc ?_ _)); refine blk_put (cs := #[.int .i64 1, .int .i64 0, .int .i64 0, .int .i32 0, .int .i32 0, .int .i64 0, .int .i64 0, .int .u32 0, .int .i32 0]) ?_ 5 _ rfl; (with_reducible repeat (first | refine blk_drewN ?_ _ | refine blk_drew ?_ | refine blk_alloc ?_ _)); refine blk_put (cs := #[.int .i64 1, .int .i64 0, .int .i64 0, .int .i32 0, .int .i32 0, .int .i64 0, .int .i64 0, .int .u32 0, .int .i32 0]) ?_ 4 _ rfl; (with_reducible repeat (first | refine blk_drewN ?_ _ | refine blk_drew ?_ | refine blk_alloc ?_ _)); refine blk_put (cs := #[.int .i64 1, .int .i64 0, .int .i64 0, .int .i32 0, .int .i32 0, .int .i64 0, .int .i64 0, .int .u32 0, .int .i32 0]) ?_ 3 _ rfl; (with_reducible repeat (first | refine blk_drewN ?_ _ | refine blk_drew ?_ | refine blk_alloc ?_ _)); refine blk_put (cs := #[.int .i64 1, .int .i64 0, .int .i64 0, .int .i32 0, .int .i32 0, .int .i64 0, .int .i64 0, .int .u32 0, .int .i32 0]) ?_ 2 _ rfl; (with_reducible repeat (first | refine blk_drewN ?_ _ | refine blk_drew ?_ | refine blk_alloc ?_ _)); refine blk_put (cs := #[.int .i64 1, .int .i64 0, .int .i64 0, .int .i32 0, .int .i32 0, .int .i64 0, .int .i64 0, .int .u32 0, .int .i32 0]) ?_ 1 _ rfl; (with_reducible repeat (first | refine blk_drewN ?_ _ | refine blk_drew ?_ | refine blk_alloc ?_ _)); refine blk_put (cs := #[.int .i64 0, .int .i64 0, .int .i64 0, .int .i32 0, .int .i32 0, .int .i64 0, .int .i64 0, .int .u32 0, .int .i32 0]) ?_ 0 _ rfl; (with_reducible repeat (first | refine blk_drewN ?_ _ | refine blk_drew ?_ | refine blk_alloc ?_ _)); exact BK128.out) Tryd.underlying37 rfl (by kernel_rfl)) rfl ?_
    exact ⟨by first | rfl | (simp [errW_none, errW_some] <;> rfl) | (simp [*, errW_none, errW_some] <;> rfl), by repeat (first | (with_reducible first | exact HB.out | apply below_alloc | apply pw_below_drewN | apply below_drew1 | refine below_set ?_ GE128.out) | exact HB.out)⟩
  · rw [if_neg c2] at H
    have c2b0 : ((l0.length : Int) == 0) = false := beq_eq_false_iff_ne.mpr c2
    have c2b1 : ((l0.length : Int) != 0) = true := bne_iff_ne.mpr c2
    have c2b2 : ¬ (l0 = []) := fun h_ => c2 (by rw [h_]; rfl)
    by_cases c5 : 0 < (l0.length : Int)
    · rw [if_pos c5] at H
      have c5b0 : decide (0 < (l0.length : Int)) = true := decide_eq_true c5
      have c5b1 : decide (0 < l0.length) = true := decide_eq_true (by omega)
      clear c5
      by_cases c6 : (rd l0 0) = 92
      · rw [if_pos c6] at H
        have c6b0 : ((rd l0 0) == 92) = true := beq_iff_eq.mpr c6
        have c6b1 : ((rd l0 0) != 92) = false := bne_eq_false_iff_eq.mpr c6
        clear c6
        simp only [Option.some.injEq, Prod.mk.injEq] at H
        obtain ⟨rfl, rfl, rfl, rfl, rfl, rfl, rfl, rfl, rfl⟩ := H
        go_enter Tryd.func16, Tryd.ntmps16
        go_wp2_with (first | ((with_reducible refine gate_dst (N := 2) rfl ?_); refine box_event ?hg (N := 2) ?hd (cs := #[.int .i64 0, .int .i64 0, .int .i64 0, .int .i32 0, .int .i32 0, .int .i64 0, .int .i64 0, .int .u32 0, .int .i32 0]) (t := 37) ?hr ?_; (case hd => rfl); (case hg => rfl); (case hr => first | (go_simp; done) | (go_simp; rfl)); intro gb128 hg w7 hbox hb; have n0_ := Aside0.mk (below_step (by repeat (first | (with_reducible first | exact HB.out | apply below_alloc | apply pw_below_drewN | apply below_drew1) | exact HB.out)) hb); have n1_ := Aside0.mk (hbox); have n2_ := Aside0.mk ((by rw [hg]; exact (below_size (by repeat (first | (with_reducible first | exact HB.out | apply below_alloc | apply pw_below_drewN | apply below_drew1) | exact HB.out))) : w.heap.size ≤ gb128)); have n3_ := Aside0.mk ((by rw [hg]; exact (below_size (by repeat (first | (with_reducible first | exact HB.out | apply below_alloc | apply pw_below_drewN | apply below_drew1) | exact HB.out))) : w.heap.size ≤ gb128)); clear HB; have HB := n0_; have BK128 := n1_; have GW128 := n2_; have GE128 := n3_; clear n0_ n1_ n2_ n3_; clear hb hbox hg; have p129 : 0 ≤ (0 : Int) := (by omega); have q129 : 0 < (l0.length : Int) := of_decide_eq_true (by first | (with_reducible assumption) | assumption); obtain ⟨ad129, e129, hx129_0⟩ := Kd.at_int HR0.out 0 p129 q129; cases e129; have qi129 : (0 < l0.length) = True := eq_true (by omega); (try rw [show ((0 : Int)).toNat = 0 from rfl] at hx129_0); (try rw [Addr.add_zero'] at hx129_0); replace hx129_0 := (HB.out.cell (World.block_lt_of_cell? w _ hx129_0)).trans hx129_0; replace p129 := eq_true p129; replace q129 := eq_true q129; have hcz8_0 : w7.cell? ⟨gb128, 0, none⟩ = some (.int .i64 0) := (blk_cell BK128.out 0).trans rfl; have hcz8_1 : w7.cell? ⟨gb128, 1, none⟩ = some (.int .i64 0) := (blk_cell BK128.out 1).trans rfl; have hcz8_2 : w7.cell? ⟨gb128, 2, none⟩ = some (.int .i64 0) := (blk_cell BK128.out 2).trans rfl; have hcz8_3 : w7.cell? ⟨gb128, 3, none⟩ = some (.int .i32 0) := (blk_cell BK128.out 3).trans rfl; have hcz8_4 : w7.cell? ⟨gb128, 4, none⟩ = some (.int .i32 0) := (blk_cell BK128.out 4).trans rfl; have hcz8_5 : w7.cell? ⟨gb128, 5, none⟩ = some (.int .i64 0) := (blk_cell BK128.out 5).trans rfl; have hcz8_6 : w7.cell? ⟨gb128, 6, none⟩ = some (.int .i64 0) := (blk_cell BK128.out 6).trans rfl; have hcz8_7 : w7.cell? ⟨gb128, 7, none⟩ = some (.int .u32 0) := (blk_cell BK128.out 7).trans rfl; have hcz8_8 : w7.cell? ⟨gb128, 8, none⟩ = some (.int .i32 0) := (blk_cell BK128.out 8).trans rfl; have hfz8_0 := blk_frozen BK128.out 0; have hfz8_1 := blk_frozen BK128.out 1; have hfz8_2 := blk_frozen BK128.out 2; have hfz8_3 := blk_frozen BK128.out 3; have hfz8_4 := blk_frozen BK128.out 4; have hfz8_5 := blk_frozen BK128.out 5; have hfz8_6 := blk_frozen BK128.out 6; have hfz8_7 := blk_frozen BK128.out 7; have hfz8_8 := blk_frozen BK128.out 8))
        refine bodyPost_ret (results_cell_row rfl _ _ gb128 37 #[.int .i64 0, .int .i64 1, .int .i64 1, .int .i32 8361, .int .i32 0, .int .i64 0, .int .i64 0, .int .u32 0, .int .i32 0] (0, 0) _ rfl (by (with_reducible repeat (first | refine blk_drewN ?_ _ | refine blk_drew ?_ | refine blk_alloc ?_ _)); refine blk_put (cs := #[.int .i64 0, .int .i64 1, .int .i64 1, .int .i32 8361, .int .i32 0, .int .i64 0, .int .i64 0, .int .u32 0, .int .i32 0]) ?_ 8 _ rfl; (with_reducible repeat (first | refine blk_drewN ?_ _ | refine blk_drew ?_ | refine blk_alloc ?_ _)); refine blk_put (cs := #[.int .i64 0, .int .i64 1, .int .i64 1, .int .i32 8361, .int .i32 0, .int .i64 0, .int .i64 0, .int .u32 0, .int .i32 0]) ?_ 7 _ rfl; (with_reducible repeat (first | refine blk_drewN ?_ _ | refine blk_drew ?_ | refine blk_alloc ?_ _)); refine blk_put (cs := #[.int .i64 0, .int .i64 1, .int .i64 1, .int .i32 8361, .int .i32 0, .int .i64 0, .int .i64 0, .int .u32 0, .int .i32 0]) ?_ 6 _ rfl; (with_reducible repeat (first | refine blk_drewN ?_ _ | refine blk_drew ?_ | refine blk_alloc ?_ _)); refine blk_put (cs := #[.int .i64 0, .int .i64 1, .int .i64 1, .int .i32 8361, .int .i32 0, .int .i64 0, .int .i64 0, .int .u32 0, .int .i32 0]) ?_ 5 _ rfl; (with_reducible repeat (first | refine blk_drewN ?_ _ | refine blk_drew ?_ | refine blk_alloc ?_ _)); refine blk_put (cs := #[.int .i64 0, .int .i64 1, .int .i64 1, .int .i32 8361, .int .i32 0, .int .i64 0, .int .i64 0, .int .u32 0, .int .i32 0]) ?_ 4 _ rfl; (with_reducible repeat (first | refine blk_drewN ?_ _ | refine blk_drew ?_ | refine blk_alloc ?_ _)); refine blk_put (cs := #[.int .i64 0, .int .i64 1, .int .i64 1, .int .i32 0, .int .i32 0, .int .i64 0, .int .i64 0, .int .u32 0, .int .i32 0]) ?_ 3 _ rfl; (with_reducible repeat (first | refine blk_drewN ?_ _ | refine blk_drew ?_ | refine blk_alloc ?_ _)); refine blk_put (cs := #[.int .i64 0, .int .i64 1, .int .i64 0, .int .i32 0, .int .i32 0, .int .i64 0, .int .i64 0, .int .u32 0, .int .i32 0]) ?_ 2 _ rfl; (with_reducible repeat (first | refine blk_drewN ?_ _ | refine blk_drew ?_ | refine blk_alloc ?_ _)); refine blk_put (cs := #[.int .i64 0, .int .i64 0, .int .i64 0, .int .i32 0, .int .i32 0, .int .i64 0, .int .i64 0, .int .u32 0, .int .i32 0]) ?_ 1 _ rfl; (with_reducible repeat (first | refine blk_drewN ?_ _ | refine blk_drew ?_ | refine blk_alloc ?_ _)); refine blk_put (cs := #[.int .i64 0, .int .i64 0, .int .i64 0, .int .i32 0, .int .i32 0, .int .i64 0, .int .i64 0, .int .u32 0, .int .i32 0]) ?_ 0 _ rfl; (with_reducible repeat (first | refine blk_drewN ?_ _ | refine blk_drew ?_ | refine blk_alloc ?_ _)); exact BK128.out) Tryd.underlying37 rfl (by kernel_rfl)) rfl ?_
        exact ⟨by first | rfl | (simp [errW_none, errW_some] <;> rfl) | (simp [*, errW_none, errW_some] <;> rfl), by repeat (first | (with_reducible first | exact HB.out | apply below_alloc | apply pw_below_drewN | apply below_drew1 | refine below_set ?_ GE128.out) | exact HB.out)⟩
      · rw [if_neg c6] at H
        have c6b0 : ((rd l0 0) == 92) = false := beq_eq_false_iff_ne.mpr c6
        have c6b1 : ((rd l0 0) != 92) = true := bne_iff_ne.mpr c6
        by_cases c9 : (rd l0 0) < 128
        · rw [if_pos c9] at H
          have c9b0 : decide ((rd l0 0) < 128) = true := decide_eq_true c9
          clear c9
          simp only [Option.some.injEq, Prod.mk.injEq] at H
          obtain ⟨rfl, rfl, rfl, rfl, rfl, rfl, rfl, rfl, rfl⟩ := H
          go_enter Tryd.func16, Tryd.ntmps16
          go_wp2_with (first | ((with_reducible refine gate_dst (N := 2) rfl ?_); refine box_event ?hg (N := 2) ?hd (cs := #[.int .i64 0, .int .i64 0, .int .i64 0, .int .i32 0, .int .i32 0, .int .i64 0, .int .i64 0, .int .u32 0, .int .i32 0]) (t := 37) ?hr ?_; (case hd => rfl); (case hg => rfl); (case hr => first | (go_simp; done) | (go_simp; rfl)); intro gb128 hg w10 hbox hb; have n0_ := Aside0.mk (below_step (by repeat (first | (with_reducible first | exact HB.out | apply below_alloc | apply pw_below_drewN | apply below_drew1) | exact HB.out)) hb); have n1_ := Aside0.mk (hbox); have n2_ := Aside0.mk ((by rw [hg]; exact (below_size (by repeat (first | (with_reducible first | exact HB.out | apply below_alloc | apply pw_below_drewN | apply below_drew1) | exact HB.out))) : w.heap.size ≤ gb128)); have n3_ := Aside0.mk ((by rw [hg]; exact (below_size (by repeat (first | (with_reducible first | exact HB.out | apply below_alloc | apply pw_below_drewN | apply below_drew1) | exact HB.out))) : w.heap.size ≤ gb128)); clear HB; have HB := n0_; have BK128 := n1_; have GW128 := n2_; have GE128 := n3_; clear n0_ n1_ n2_ n3_; clear hb hbox hg; have p129 : 0 ≤ (0 : Int) := (by omega); have q129 : 0 < (l0.length : Int) := of_decide_eq_true (by first | (with_reducible assumption) | assumption); obtain ⟨ad129, e129, hx129_0⟩ := Kd.at_int HR0.out 0 p129 q129; cases e129; have qi129 : (0 < l0.length) = True := eq_true (by omega); (try rw [show ((0 : Int)).toNat = 0 from rfl] at hx129_0); (try rw [Addr.add_zero'] at hx129_0); replace hx129_0 := (HB.out.cell (World.block_lt_of_cell? w _ hx129_0)).trans hx129_0; replace p129 := eq_true p129; replace q129 := eq_true q129; have p130 : 0 ≤ (0 : Int) := (by omega); have q130 : 0 < (l0.length : Int) := of_decide_eq_true (by first | (with_reducible assumption) | assumption); obtain ⟨ad130, e130, hx130_0⟩ := Kd.at_int HR0.out 0 p130 q130; obtain rfl : ad129 = ad130 := (by injection e130); have qi130 : (0 < l0.length) = True := eq_true (by omega); (try rw [show ((0 : Int)).toNat = 0 from rfl] at hx130_0); (try rw [Addr.add_zero'] at hx130_0); replace hx130_0 := (HB.out.cell (World.block_lt_of_cell? w _ hx130_0)).trans hx130_0; replace p130 := eq_true p130; replace q130 := eq_true q130; have p131 : 0 ≤ (0 : Int) := (by omega); have q131 : 0 < (l0.length : Int) := of_decide_eq_true (by first | (with_reducible assumption) | assumption); obtain ⟨ad131, e131, hx131_0⟩ := Kd.at_int HR0.out 0 p131 q131; obtain rfl : ad129 = ad131 := (by injection e131); have qi131 : (0 < l0.length) = True := eq_true (by omega); (try rw [show ((0 : Int)).toNat = 0 from rfl] at hx131_0); (try rw [Addr.add_zero'] at hx131_0); replace hx131_0 := (HB.out.cell (World.block_lt_of_cell? w _ hx131_0)).trans hx131_0; replace p131 := eq_true p131; replace q131 := eq_true q131; have hcz11_0 : w10.cell? ⟨gb128, 0, none⟩ = some (.int .i64 0) := (blk_cell BK128.out 0).trans rfl; have hcz11_1 : w10.cell? ⟨gb128, 1, none⟩ = some (.int .i64 0) := (blk_cell BK128.out 1).trans rfl; have hcz11_2 : w10.cell? ⟨gb128, 2, none⟩ = some (.int .i64 0) := (blk_cell BK128.out 2).trans rfl; have hcz11_3 : w10.cell? ⟨gb128, 3, none⟩ = some (.int .i32 0) := (blk_cell BK128.out 3).trans rfl; have hcz11_4 : w10.cell? ⟨gb128, 4, none⟩ = some (.int .i32 0) := (blk_cell BK128.out 4).trans rfl; have hcz11_5 : w10.cell? ⟨gb128, 5, none⟩ = some (.int .i64 0) := (blk_cell BK128.out 5).trans rfl; have hcz11_6 : w10.cell? ⟨gb128, 6, none⟩ = some (.int .i64 0) := (blk_cell BK128.out 6).trans rfl; have hcz11_7 : w10.cell? ⟨gb128, 7, none⟩ = some (.int .u32 0) := (blk_cell BK128.out 7).trans rfl; have hcz11_8 : w10.cell? ⟨gb128, 8, none⟩ = some (.int .i32 0) := (blk_cell BK128.out 8).trans rfl; have hfz11_0 := blk_frozen BK128.out 0; have hfz11_1 := blk_frozen BK128.out 1; have hfz11_2 := blk_frozen BK128.out 2; have hfz11_3 := blk_frozen BK128.out 3; have hfz11_4 := blk_frozen BK128.out 4; have hfz11_5 := blk_frozen BK128.out 5; have hfz11_6 := blk_frozen BK128.out 6; have hfz11_7 := blk_frozen BK128.out 7; have hfz11_8 := blk_frozen BK128.out 8))
          refine bodyPost_ret (results_cell_row rfl _ _ gb128 37 #[.int .i64 0, .int .i64 1, .int .i64 1, .int .i32 (wrap32 (rd l0 0)), .int .i32 0, .int .i64 0, .int .i64 0, .int .u32 0, .int .i32 0] (0, 0) _ rfl (by (with_reducible repeat (first | refine blk_drewN ?_ _ | refine blk_drew ?_ | refine blk_alloc ?_ _)); refine blk_put (cs := #[.int .i64 0, .int .i64 1, .int .i64 1, .int .i32 (wrap32 (rd l0 0)), .int .i32 0, .int .i64 0, .int .i64 0, .int .u32 0, .int .i32 0]) ?_ 8 _ rfl; (with_reducible repeat (first | refine blk_drewN ?_ _ | refine blk_drew ?_ | refine blk_alloc ?_ _)); refine blk_put (cs := #[.int .i64 0, .int .i64 1, .int .i64 1, .int .i32 (wrap32 (rd l0 0)), .int .i32 0, .int .i64 0, .int .i64 0, .int .u32 0, .int .i32 0]) ?_ 7 _ rfl; (with_reducible repeat (first | refine blk_drewN ?_ _ | refine blk_drew ?_ | refine blk_alloc ?_ _)); refine blk_put (cs := #[.int .i64 0, .int .i64 1, .int .i64 1, .int .i32 (wrap32 (rd l0 0)), .int .i32 0, .int .i64 0, .int .i64 0, .int .u32 0, .int .i32 0]) ?_ 6 _ rfl; (with_reducible repeat (first | refine blk_drewN ?_ _ | refine blk_drew ?_ | refine blk_alloc ?_ _)); refine blk_put (cs := #[.int .i64 0, .int .i64 1, .int .i64 1, .int .i32 (wrap32 (rd l0 0)), .int .i32 0, .int .i64 0, .int .i64 0, .int .u32 0, .int .i32 0]) ?_ 5 _ rfl; (with_reducible repeat (first | refine blk_drewN ?_ _ | refine blk_drew ?_ | refine blk_alloc ?_ _)); refine blk_put (cs := #[.int .i64 0, .int .i64 1, .int .i64 1, .int .i32 (wrap32 (rd l0 0)), .int .i32 0, .int .i64 0, .int .i64 0, .int .u32 0, .int .i32 0]) ?_ 4 _ rfl; (with_reducible repeat (first | refine blk_drewN ?_ _ | refine blk_drew ?_ | refine blk_alloc ?_ _)); refine blk_put (cs := #[.int .i64 0, .int .i64 1, .int .i64 1, .int .i32 0, .int .i32 0, .int .i64 0, .int .i64 0, .int .u32 0, .int .i32 0]) ?_ 3 _ rfl; (with_reducible repeat (first | refine blk_drewN ?_ _ | refine blk_drew ?_ | refine blk_alloc ?_ _)); refine blk_put (cs := #[.int .i64 0, .int .i64 1, .int .i64 0, .int .i32 0, .int .i32 0, .int .i64 0, .int .i64 0, .int .u32 0, .int .i32 0]) ?_ 2 _ rfl; (with_reducible repeat (first | refine blk_drewN ?_ _ | refine blk_drew ?_ | refine blk_alloc ?_ _)); refine blk_put (cs := #[.int .i64 0, .int .i64 0, .int .i64 0, .int .i32 0, .int .i32 0, .int .i64 0, .int .i64 0, .int .u32 0, .int .i32 0]) ?_ 1 _ rfl; (with_reducible repeat (first | refine blk_drewN ?_ _ | refine blk_drew ?_ | refine blk_alloc ?_ _)); refine blk_put (cs := #[.int .i64 0, .int .i64 0, .int .i64 0, .int .i32 0, .int .i32 0, .int .i64 0, .int .i64 0, .int .u32 0, .int .i32 0]) ?_ 0 _ rfl; (with_reducible repeat (first | refine blk_drewN ?_ _ | refine blk_drew ?_ | refine blk_alloc ?_ _)); exact BK128.out) Tryd.underlying37 rfl (by kernel_rfl)) rfl ?_
          exact ⟨by first | rfl | (simp [errW_none, errW_some] <;> rfl) | (simp [*, errW_none, errW_some] <;> rfl), by repeat (first | (with_reducible first | exact HB.out | apply below_alloc | apply pw_below_drewN | apply below_drew1 | refine below_set ?_ GE128.out) | exact HB.out)⟩
        · rw [if_neg c9] at H
          have c9b0 : decide ((rd l0 0) < 128) = false := decide_eq_false c9
          clear c9
          replace H := Option.bind_eq_some_iff.mp H
          obtain ⟨t133, A120, H⟩ := H
          replace H : (if t133 = true then (if (l0.length : Int) = 1 then (some (1, 0, 0, 0, 0, 0, 0, 0, 0)) else (if 1 < (l0.length : Int) then ((dragomanref19_Unpack.f k (wrap64 ((wrap64 ((wrap64 (rd l0 0)) * 256)) + (wrap64 (rd l0 1))))).bind fun bt136 => (if bt136.2.2.2 = true then ((dragomanref16_Syllable.f bt136.1 bt136.2.1 bt136.2.2.1).bind fun bt140 => (some (0, 2, 1, bt140.1, 0, 0, 0, 0, 0))) else (some (10, 2, 0, 0, 0, 0, 0, 0, 0)))) else (none))) else (some (10, 1, 0, 0, 0, 0, 0, 0, 0))) = some (r1, r2, r3, r4, r5, r6, r7, r8, r9) := H
          have A12 := Aside0.mk A120
          clear A120
          by_cases c13 : t133 = true
          · subst c13
            have H1 : (if (l0.length : Int) = 1 then (some (1, 0, 0, 0, 0, 0, 0, 0, 0)) else (if 1 < (l0.length : Int) then ((dragomanref19_Unpack.f k (wrap64 ((wrap64 ((wrap64 (rd l0 0)) * 256)) + (wrap64 (rd l0 1))))).bind fun bt136 => (if bt136.2.2.2 = true then ((dragomanref16_Syllable.f bt136.1 bt136.2.1 bt136.2.2.1).bind fun bt140 => (some (0, 2, 1, bt140.1, 0, 0, 0, 0, 0))) else (some (10, 2, 0, 0, 0, 0, 0, 0, 0)))) else (none))) = some (r1, r2, r3, r4, r5, r6, r7, r8, r9) := by rw [if_pos rfl] at H; exact H
            clear H
            have H := H1
            clear H1
            by_cases c14 : (l0.length : Int) = 1
            · rw [if_pos c14] at H
              have c14b0 : ((l0.length : Int) == 1) = true := beq_iff_eq.mpr c14
              have c14b1 : ((l0.length : Int) != 1) = false := bne_eq_false_iff_eq.mpr c14
              clear c14
              simp only [Option.some.injEq, Prod.mk.injEq] at H
              obtain ⟨rfl, rfl, rfl, rfl, rfl, rfl, rfl, rfl, rfl⟩ := H
              go_enter Tryd.func16, Tryd.ntmps16
              go_wp2_with (first | ((with_reducible refine gate_dst (N := 2) rfl ?_); refine box_event ?hg (N := 2) ?hd (cs := #[.int .i64 0, .int .i64 0, .int .i64 0, .int .i32 0, .int .i32 0, .int .i64 0, .int .i64 0, .int .u32 0, .int .i32 0]) (t := 37) ?hr ?_; (case hd => rfl); (case hg => rfl); (case hr => first | (go_simp; done) | (go_simp; rfl)); intro gb128 hg w15 hbox hb; have n0_ := Aside0.mk (below_step (by repeat (first | (with_reducible first | exact HB.out | apply below_alloc | apply pw_below_drewN | apply below_drew1) | exact HB.out)) hb); have n1_ := Aside0.mk (hbox); have n2_ := Aside0.mk ((by rw [hg]; exact (below_size (by repeat (first | (with_reducible first | exact HB.out | apply below_alloc | apply pw_below_drewN | apply below_drew1) | exact HB.out))) : w.heap.size ≤ gb128)); have n3_ := Aside0.mk ((by rw [hg]; exact (below_size (by repeat (first | (with_reducible first | exact HB.out | apply below_alloc | apply pw_below_drewN | apply below_drew1) | exact HB.out))) : w.heap.size ≤ gb128)); clear HB; have HB := n0_; have BK128 := n1_; have GW128 := n2_; have GE128 := n3_; clear n0_ n1_ n2_ n3_; clear hb hbox hg; have p129 : 0 ≤ (0 : Int) := (by omega); have q129 : 0 < (l0.length : Int) := of_decide_eq_true (by first | (with_reducible assumption) | assumption); obtain ⟨ad129, e129, hx129_0⟩ := Kd.at_int HR0.out 0 p129 q129; cases e129; have qi129 : (0 < l0.length) = True := eq_true (by omega); (try rw [show ((0 : Int)).toNat = 0 from rfl] at hx129_0); (try rw [Addr.add_zero'] at hx129_0); replace hx129_0 := (HB.out.cell (World.block_lt_of_cell? w _ hx129_0)).trans hx129_0; replace p129 := eq_true p129; replace q129 := eq_true q129; have p130 : 0 ≤ (0 : Int) := (by omega); have q130 : 0 < (l0.length : Int) := of_decide_eq_true (by first | (with_reducible assumption) | assumption); obtain ⟨ad130, e130, hx130_0⟩ := Kd.at_int HR0.out 0 p130 q130; obtain rfl : ad129 = ad130 := (by injection e130); have qi130 : (0 < l0.length) = True := eq_true (by omega); (try rw [show ((0 : Int)).toNat = 0 from rfl] at hx130_0); (try rw [Addr.add_zero'] at hx130_0); replace hx130_0 := (HB.out.cell (World.block_lt_of_cell? w _ hx130_0)).trans hx130_0; replace p130 := eq_true p130; replace q130 := eq_true q130; have p132 : 0 ≤ (0 : Int) := (by omega); have q132 : 0 < (l0.length : Int) := of_decide_eq_true (by first | (with_reducible assumption) | assumption); obtain ⟨ad132, e132, hx132_0⟩ := Kd.at_int HR0.out 0 p132 q132; obtain rfl : ad129 = ad132 := (by injection e132); have qi132 : (0 < l0.length) = True := eq_true (by omega); (try rw [show ((0 : Int)).toNat = 0 from rfl] at hx132_0); (try rw [Addr.add_zero'] at hx132_0); replace hx132_0 := (HB.out.cell (World.block_lt_of_cell? w _ hx132_0)).trans hx132_0; replace p132 := eq_true p132; replace q132 := eq_true q132) | ((with_reducible refine gate_callee (f := 28) rfl ?_); refine goesL_ (some 34) rfl rfl Tryd.func28 (by kernel_rfl) rfl #[.int .u8 (rd l0 0)] rfl (by (try simp only [List.map_toArray, List.map_cons, List.map_nil]); first | done | rfl | (simp only [List.length_drop, List.length_take]; rfl)) ?_; (with_reducible refine (dragomanref19_begins.calls k (rd l0 0) true _ A12.out).mono ?_); rintro e w16 ⟨rfl, hb⟩; refine ⟨_, rfl, ?_⟩; have n0_ := Aside0.mk (blk_below (g := gb128) (o := .cells #[.int .i64 0, .int .i64 0, .int .i64 0, .int .i32 0, .int .i32 0, .int .i64 0, .int .i64 0, .int .u32 0, .int .i32 0] 37 (0, 0)) (by (with_reducible repeat (first | refine blk_drewN ?_ _ | refine blk_drew ?_ | refine blk_alloc ?_ _)); exact BK128.out) hb); have n1_ := Aside0.mk (below_step (by repeat (first | (with_reducible first | exact HB.out | apply below_alloc | apply pw_below_drewN | apply below_drew1 | refine below_set ?_ GE128.out) | exact HB.out)) hb); clear BK128; clear HB; have BK128 := n0_; have HB := n1_; clear n0_ n1_; (try clear hb); (try clear hb2); (try clear hk); (try clear hi); have hcz17_0 : w16.cell? ⟨gb128, 0, none⟩ = some (.int .i64 0) := (blk_cell BK128.out 0).trans rfl; have hcz17_1 : w16.cell? ⟨gb128, 1, none⟩ = some (.int .i64 0) := (blk_cell BK128.out 1).trans rfl; have hcz17_2 : w16.cell? ⟨gb128, 2, none⟩ = some (.int .i64 0) := (blk_cell BK128.out 2).trans rfl; have hcz17_3 : w16.cell? ⟨gb128, 3, none⟩ = some (.int .i32 0) := (blk_cell BK128.out 3).trans rfl; have hcz17_4 : w16.cell? ⟨gb128, 4, none⟩ = some (.int .i32 0) := (blk_cell BK128.out 4).trans rfl; have hcz17_5 : w16.cell? ⟨gb128, 5, none⟩ = some (.int .i64 0) := (blk_cell BK128.out 5).trans rfl; have hcz17_6 : w16.cell? ⟨gb128, 6, none⟩ = some (.int .i64 0) := (blk_cell BK128.out 6).trans rfl; have hcz17_7 : w16.cell? ⟨gb128, 7, none⟩ = some (.int .u32 0) := (blk_cell BK128.out 7).trans rfl; have hcz17_8 : w16.cell? ⟨gb128, 8, none⟩ = some (.int .i32 0) := (blk_cell BK128.out 8).trans rfl; have hfz17_0 := blk_frozen BK128.out 0; have hfz17_1 := blk_frozen BK128.out 1; have hfz17_2 := blk_frozen BK128.out 2; have hfz17_3 := blk_frozen BK128.out 3; have hfz17_4 := blk_frozen BK128.out 4; have hfz17_5 := blk_frozen BK128.out 5; have hfz17_6 := blk_frozen BK128.out 6; have hfz17_7 := blk_frozen BK128.out 7; have hfz17_8 := blk_frozen BK128.out 8))
              refine bodyPost_ret (results_cell_row rfl _ _ gb128 37 #[.int .i64 1, .int .i64 0, .int .i64 0, .int .i32 0, .int .i32 0, .int .i64 0, .int .i64 0, .int .u32 0, .int .i32 0] (0, 0) _ rfl (by (with_reducible repeat (first | refine blk_drewN ?_ _ | refine blk_drew ?_ | refine blk_alloc ?_ _)); refine blk_put (cs := #[.int .i64 1, .int .i64 0, .int .i64 0, .int .i32 0, .int .i32 0, .int .i64 0, .int .i64 0, .int .u32 0, .int .i32 0]) ?_ 8 _ rfl; (with_reducible repeat (first | refine blk_drewN ?_ _ | refine blk_drew ?_ | refine blk_alloc ?_ _)); refine blk_put (cs := #[.int .i64 1, .int .i64 0, .int .i64 0, .int .i32 0, .int .i32 0, .int .i64 0, .int .i64 0, .int .u32 0, .int .i32 0]) ?_ 7 _ rfl; (with_reducible repeat (first | refine blk_drewN ?_ _ | refine blk_drew ?_ | refine blk_alloc ?_ _)); refine blk_put (cs := #[.int .i64 1, .int .i64 0, .int .i64 0, .int .i32 0, .int .i32 0, .int .i64 0, .int .i64 0, .int .u32 0, .int .i32 0]) ?_ 6 _ rfl; (with_reducible repeat (first | refine blk_drewN ?_ _ | refine blk_drew ?_ | refine blk_alloc ?_ _)); refine blk_put (cs := #[.int .i64 1, .int .i64 0, .int .i64 0, .int .i32 0, .int .i32 0, .int .i64 0, .int .i64 0, .int .u32 0, .int .i32 0]) ?_ 5 _ rfl; (with_reducible repeat (first | refine blk_drewN ?_ _ | refine blk_drew ?_ | refine blk_alloc ?_ _)); refine blk_put (cs := #[.int .i64 1, .int .i64 0, .int .i64 0, .int .i32 0, .int .i32 0, .int .i64 0, .int .i64 0, .int .u32 0, .int .i32 0]) ?_ 4 _ rfl; (with_reducible repeat (first | refine blk_drewN ?_ _ | refine blk_drew ?_ | refine blk_alloc ?_ _)); refine blk_put (cs := #[.int .i64 1, .int .i64 0, .int .i64 0, .int .i32 0, .int .i32 0, .int .i64 0, .int .i64 0, .int .u32 0, .int .i32 0]) ?_ 3 _ rfl; (with_reducible repeat (first | refine blk_drewN ?_ _ | refine blk_drew ?_ | refine blk_alloc ?_ _)); refine blk_put (cs := #[.int .i64 1, .int .i64 0, .int .i64 0, .int .i32 0, .int .i32 0, .int .i64 0, .int .i64 0, .int .u32 0, .int .i32 0]) ?_ 2 _ rfl; (with_reducible repeat (first | refine blk_drewN ?_ _ | refine blk_drew ?_ | refine blk_alloc ?_ _)); refine blk_put (cs := #[.int .i64 1, .int .i64 0, .int .i64 0, .int .i32 0, .int .i32 0, .int .i64 0, .int .i64 0, .int .u32 0, .int .i32 0]) ?_ 1 _ rfl; (with_reducible repeat (first | refine blk_drewN ?_ _ | refine blk_drew ?_ | refine blk_alloc ?_ _)); refine blk_put (cs := #[.int .i64 0, .int .i64 0, .int .i64 0, .int .i32 0, .int .i32 0, .int .i64 0, .int .i64 0, .int .u32 0, .int .i32 0]) ?_ 0 _ rfl; (with_reducible repeat (first | refine blk_drewN ?_ _ | refine blk_drew ?_ | refine blk_alloc ?_ _)); exact BK128.out) Tryd.underlying37 rfl (by kernel_rfl)) rfl ?_
              exact ⟨by first | rfl | (simp [errW_none, errW_some] <;> rfl) | (simp [*, errW_none, errW_some] <;> rfl), by repeat (first | (with_reducible first | exact HB.out | apply below_alloc | apply pw_below_drewN | apply below_drew1 | refine below_set ?_ GE128.out) | exact HB.out)⟩
            · rw [if_neg c14] at H
              have c14b0 : ((l0.length : Int) == 1) = false := beq_eq_false_iff_ne.mpr c14
              have c14b1 : ((l0.length : Int) != 1) = true := bne_iff_ne.mpr c14
              by_cases c18 : 1 < (l0.length : Int)
              · rw [if_pos c18] at H
                have c18b0 : decide (1 < (l0.length : Int)) = true := decide_eq_true c18
                have c18b1 : decide (1 < l0.length) = true := decide_eq_true (by omega)
                clear c18
                replace H := Option.bind_eq_some_iff.mp H
                obtain ⟨⟨t136, t137, t138, t139⟩, A190, H⟩ := H
                replace H : (if t139 = true then ((dragomanref16_Syllable.f t136 t137 t138).bind fun bt140 => (some (0, 2, 1, bt140.1, 0, 0, 0, 0, 0))) else (some (10, 2, 0, 0, 0, 0, 0, 0, 0))) = some (r1, r2, r3, r4, r5, r6, r7, r8, r9) := H
                have A19 := Aside0.mk A190
                clear A190
                by_cases c20 : t139 = true
                · subst c20
                  have H1 : ((dragomanref16_Syllable.f t136 t137 t138).bind fun bt140 => (some (0, 2, 1, bt140.1, 0, 0, 0, 0, 0))) = some (r1, r2, r3, r4, r5, r6, r7, r8, r9) := by rw [if_pos rfl] at H; exact H
                  clear H
                  have H := H1
                  clear H1
                  replace H := Option.bind_eq_some_iff.mp H
                  obtain ⟨⟨t140, t141⟩, A210, H⟩ := H
                  replace H : (some (0, 2, 1, t140, 0, 0, 0, 0, 0)) = some (r1, r2, r3, r4, r5, r6, r7, r8, r9) := H
                  have A21 := Aside0.mk A210
                  clear A210
                  simp only [Option.some.injEq, Prod.mk.injEq] at H
                  obtain ⟨rfl, rfl, rfl, rfl, rfl, rfl, rfl, rfl, rfl⟩ := H
                  go_enter Tryd.func16, Tryd.ntmps16
                  try go_wp2_with (first | ((with_reducible refine gate_dst (N := 2) rfl ?_); refine box_event ?hg (N := 2) ?hd (cs := #[.int .i64 0, .int .i64 0, .int .i64 0, .int .i32 0, .int .i32 0, .int .i64 0, .int .i64 0, .int .u32 0, .int .i32 0]) (t := 37) ?hr ?_; (case hd => rfl); (case hg => rfl); (case hr => first | (go_simp; done) | (go_simp; rfl)); intro gb128 hg w22 hbox hb; have n0_ := Aside0.mk (below_step (by repeat (first | (with_reducible first | exact HB.out | apply below_alloc | apply pw_below_drewN | apply below_drew1) | exact HB.out)) hb); have n1_ := Aside0.mk (hbox); have n2_ := Aside0.mk ((by rw [hg]; exact (below_size (by repeat (first | (with_reducible first | exact HB.out | apply below_alloc | apply pw_below_drewN | apply below_drew1) | exact HB.out))) : w.heap.size ≤ gb128)); have n3_ := Aside0.mk ((by rw [hg]; exact (below_size (by repeat (first | (with_reducible first | exact HB.out | apply below_alloc | apply pw_below_drewN | apply below_drew1) | exact HB.out))) : w.heap.size ≤ gb128)); clear HB; have HB := n0_; have BK128 := n1_; have GW128 := n2_; have GE128 := n3_; clear n0_ n1_ n2_ n3_; clear hb hbox hg; have p129 : 0 ≤ (0 : Int) := (by omega); have q129 : 0 < (l0.length : Int) := of_decide_eq_true (by first | (with_reducible assumption) | assumption); obtain ⟨ad129, e129, hx129_0⟩ := Kd.at_int HR0.out 0 p129 q129; cases e129; have qi129 : (0 < l0.length) = True := eq_true (by omega); (try rw [show ((0 : Int)).toNat = 0 from rfl] at hx129_0); (try rw [Addr.add_zero'] at hx129_0); replace hx129_0 := (HB.out.cell (World.block_lt_of_cell? w _ hx129_0)).trans hx129_0; replace p129 := eq_true p129; replace q129 := eq_true q129; have p130 : 0 ≤ (0 : Int) := (by omega); have q130 : 0 < (l0.length : Int) := of_decide_eq_true (by first | (with_reducible assumption) | assumption); obtain ⟨ad130, e130, hx130_0⟩ := Kd.at_int HR0.out 0 p130 q130; obtain rfl : ad129 = ad130 := (by injection e130); have qi130 : (0 < l0.length) = True := eq_true (by omega); (try rw [show ((0 : Int)).toNat = 0 from rfl] at hx130_0); (try rw [Addr.add_zero'] at hx130_0); replace hx130_0 := (HB.out.cell (World.block_lt_of_cell? w _ hx130_0)).trans hx130_0; replace p130 := eq_true p130; replace q130 := eq_true q130; have p132 : 0 ≤ (0 : Int) := (by omega); have q132 : 0 < (l0.length : Int) := of_decide_eq_true (by first | (with_reducible assumption) | assumption); obtain ⟨ad132, e132, hx132_0⟩ := Kd.at_int HR0.out 0 p132 q132; obtain rfl : ad129 = ad132 := (by injection e132); have qi132 : (0 < l0.length) = True := eq_true (by omega); (try rw [show ((0 : Int)).toNat = 0 from rfl] at hx132_0); (try rw [Addr.add_zero'] at hx132_0); replace hx132_0 := (HB.out.cell (World.block_lt_of_cell? w _ hx132_0)).trans hx132_0; replace p132 := eq_true p132; replace q132 := eq_true q132) | ((with_reducible refine gate_callee (f := 28) rfl ?_); refine goesL_ (some 34) rfl rfl Tryd.func28 (by kernel_rfl) rfl #[.int .u8 (rd l0 0)] rfl (by (try simp only [List.map_toArray, List.map_cons, List.map_nil]); first | done | rfl | (simp only [List.length_drop, List.length_take]; rfl)) ?_; (with_reducible refine (dragomanref19_begins.calls k (rd l0 0) true _ A12.out).mono ?_); rintro e w23 ⟨rfl, hb⟩; refine ⟨_, rfl, ?_⟩; have n0_ := Aside0.mk (blk_below (g := gb128) (o := .cells #[.int .i64 0, .int .i64 0, .int .i64 0, .int .i32 0, .int .i32 0, .int .i64 0, .int .i64 0, .int .u32 0, .int .i32 0] 37 (0, 0)) (by (with_reducible repeat (first | refine blk_drewN ?_ _ | refine blk_drew ?_ | refine blk_alloc ?_ _)); exact BK128.out) hb); have n1_ := Aside0.mk (below_step (by repeat (first | (with_reducible first | exact HB.out | apply below_alloc | apply pw_below_drewN | apply below_drew1 | refine below_set ?_ GE128.out) | exact HB.out)) hb); clear BK128; clear HB; have BK128 := n0_; have HB := n1_; clear n0_ n1_; (try clear hb); (try clear hb2); (try clear hk); (try clear hi)))
                  have n0_ := Aside0.mk (blk_drew BK128.out)
                  have n1_ := Aside0.mk (below_drew1 HB.out)
                  clear BK128
                  clear HB
                  have BK128 := n0_
                  have HB := n1_
                  clear n0_ n1_
                  have p134 : 0 ≤ (0 : Int) := (by omega)
                  have q134 : 0 < (l0.length : Int) := of_decide_eq_true (by first | (with_reducible assumption) | assumption)
                  obtain ⟨ad134, e134, hx134_0⟩ := Kd.at_int HR0.out 0 p134 q134
                  have hw134_0 := hx134_0
                  (try rw [show ((0 : Int)).toNat = 0 from rfl] at hw134_0)
                  (try rw [show 0 * 1 = 0 from rfl] at hw134_0)
                  (try rw [Addr.add_zero'] at hw134_0)
                  obtain rfl : ad129 = ad134 := (by injection e134)
                  have qi134 : (0 < l0.length) = True := eq_true (by omega)
                  (try rw [show ((0 : Int)).toNat = 0 from rfl] at hx134_0)
                  (try rw [Addr.add_zero'] at hx134_0)
                  replace hx134_0 := (HB.out.cell (World.block_lt_of_cell? w _ hx134_0)).trans hx134_0
                  replace p134 := eq_true p134
                  replace q134 := eq_true q134
                  have p135 : 0 ≤ (1 : Int) := (by omega)
                  have q135 : 1 < (l0.length : Int) := of_decide_eq_true (by first | (with_reducible assumption) | assumption)
                  obtain ⟨ad135, e135, hx135_0⟩ := Kd.at_int HR0.out 1 p135 q135
                  have hw135_0 := hx135_0
                  (try rw [show ((1 : Int)).toNat = 1 from rfl] at hw135_0)
                  (try rw [show 1 * 1 = 1 from rfl] at hw135_0)
                  (try simp only [Nat.reduceMul, Nat.reduceEqDiff, Go.Addr.add, ↓reduceIte] at hw135_0)
                  obtain rfl : ad129 = ad135 := (by injection e135)
                  (try simp only [show (1 : Int).toNat = 1 from rfl, Nat.reduceMul, Nat.reduceEqDiff, Go.Addr.add, ↓reduceIte] at hx135_0)
                  have qi135 : (1 < l0.length) = True := eq_true (by omega)
                  (try rw [show ((1 : Int)).toNat = 1 from rfl] at hx135_0)
                  replace hx135_0 := (HB.out.cell (World.block_lt_of_cell? w _ hx135_0)).trans hx135_0
                  replace p135 := eq_true p135
                  replace q135 := eq_true q135
                  refine start_ (n := 20) (S := fun w' => w'.cell? ad129 = some (.int .u8 (rd l0 0)) ∧ w'.cell? ⟨ad129.block, ad129.off + 1, none⟩ = some (.int .u8 (rd l0 1))) (ds := []) #[false, false, false, false, false, false, false, false, false, false, false, false, false, false, false, false, false, false, false, false] (by kernel_rfl) rfl rfl ⟨((HB.out.cell (World.block_lt_of_cell? w _ hw134_0)).trans hw134_0), ((HB.out.cell (World.block_lt_of_cell? w _ hw135_0)).trans hw135_0)⟩ (fun hHeld => ?_); refine with_tabW dragomanref19_Get.tab11 dragomanref19_Get.bits11 (fun HT_ HW_ => ?_)
                  generalize w23.drew = w24 at BK128 HB hx134_0 hx135_0 hHeld ⊢
                  refine pure_ (i := 0) (N := some 43) (v := ?_) (a' := ?_) #[true, false, false, false, false, false, false, false, false, false, false, false, false, false, false, false, false, false, false, false] rfl rfl (any_of HT_.out (by kernel_rfl)) (fun _ _ _ h => h) (Or.inl ⟨by rfl, ?_⟩) ?_ ?_
                  rotate_left
                  · intro w'
                    go_simp
                    with_reducible rfl
                  rotate_left
                  · simp only [Act.put, List.setIfInBounds_toArray, List.set_cons_zero, List.set_cons_succ, i64_w, i32_w]
                    rfl
                  refine pure_ (i := 1) (N := some 44) (v := ?_) (a' := ?_) #[true, true, false, false, false, false, false, false, false, false, false, false, false, false, false, false, false, false, false, false] rfl rfl (any_of HT_.out (by kernel_rfl)) (fun _ _ _ h => h) (Or.inl ⟨by rfl, ?_⟩) ?_ ?_
                  rotate_left
                  · intro w'
                    go_simp
                    with_reducible rfl
                  rotate_left
                  · simp only [Act.put, List.setIfInBounds_toArray, List.set_cons_zero, List.set_cons_succ, i64_w, i32_w]
                    rfl
                  refine pure_ (i := 5) (N := some 48) (v := ?_) (a' := ?_) #[true, true, false, false, false, true, false, false, false, false, false, false, false, false, false, false, false, false, false, false] rfl rfl (any_of HT_.out (by kernel_rfl)) (fun _ _ _ h => h) (Or.inl ⟨by rfl, ?_⟩) ?_ ?_
                  rotate_left
                  · intro w'
                    go_simp
                    with_reducible rfl
                  rotate_left
                  · simp only [Act.put, List.setIfInBounds_toArray, List.set_cons_zero, List.set_cons_succ, i64_w, i32_w]
                    rfl
                  refine pure_ (i := 6) (N := some 49) (v := ?_) (a' := ?_) #[true, true, false, false, false, true, true, false, false, false, false, false, false, false, false, false, false, false, false, false] rfl rfl (any_of HT_.out (by kernel_rfl)) (fun _ _ _ h => h) (Or.inl ⟨by rfl, ?_⟩) ?_ ?_
                  rotate_left
                  · intro w'
                    go_simp
                    with_reducible rfl
                  rotate_left
                  · simp only [Act.put, List.setIfInBounds_toArray, List.set_cons_zero, List.set_cons_succ, i64_w, i32_w]
                    rfl
                  refine take_ (i := 2) (N := some 45) (v := ?_) (a' := ?_) #[true, true, true, false, false, true, true, false, false, false, false, false, false, false, false, false, false, false, false, false] rfl rfl (take_ofW HT_.out HW_.out (by kernel_rfl)) (fun _ _ _ h => h) (Or.inl ⟨by rfl, ?_⟩) hHeld ?_ ?_
                  rotate_left
                  · rintro w' ⟨s0, s1⟩
                    go_simp
                    with_reducible rfl
                  rotate_left
                  · simp only [Act.put, List.setIfInBounds_toArray, List.set_cons_zero, List.set_cons_succ, i64_w, i32_w]
                    rfl
                  refine pure_ (i := 3) (N := some 46) (v := ?_) (a' := ?_) #[true, true, true, true, false, true, true, false, false, false, false, false, false, false, false, false, false, false, false, false] rfl rfl (any_of HT_.out (by kernel_rfl)) (fun _ _ _ h => h) (Or.inl ⟨by rfl, ?_⟩) ?_ ?_
                  rotate_left
                  · intro w'
                    go_simp
                    with_reducible rfl
                  rotate_left
                  · simp only [Act.put, List.setIfInBounds_toArray, List.set_cons_zero, List.set_cons_succ, i64_w, i32_w]
                    rfl
                  refine pure_ (i := 4) (N := some 47) (v := ?_) (a' := ?_) #[true, true, true, true, true, true, true, false, false, false, false, false, false, false, false, false, false, false, false, false] rfl rfl (any_of HT_.out (by kernel_rfl)) (fun _ _ _ h => h) (Or.inl ⟨by rfl, ?_⟩) ?_ ?_
                  rotate_left
                  · intro w'
                    go_simp
                    with_reducible rfl
                  rotate_left
                  · simp only [Act.put, List.setIfInBounds_toArray, List.set_cons_zero, List.set_cons_succ, i64_w, i32_w]
                    rfl
                  refine take_ (i := 7) (N := some 50) (v := ?_) (a' := ?_) #[true, true, true, true, true, true, true, true, false, false, false, false, false, false, false, false, false, false, false, false] rfl rfl (take_ofW HT_.out HW_.out (by kernel_rfl)) (fun _ _ _ h => h) (Or.inl ⟨by rfl, ?_⟩) hHeld ?_ ?_
                  rotate_left
                  · rintro w' ⟨s0, s1⟩
                    go_simp
                    with_reducible rfl
                  rotate_left
                  · simp only [Act.put, List.setIfInBounds_toArray, List.set_cons_zero, List.set_cons_succ, i64_w, i32_w]
                    rfl
                  refine pure_ (i := 8) (N := some 51) (v := ?_) (a' := ?_) #[true, true, true, true, true, true, true, true, true, false, false, false, false, false, false, false, false, false, false, false] rfl rfl (any_of HT_.out (by kernel_rfl)) (fun _ _ _ h => h) (Or.inl ⟨by rfl, ?_⟩) ?_ ?_
                  rotate_left
                  · intro w'
                    go_simp
                    with_reducible rfl
                  rotate_left
                  · simp only [Act.put, List.setIfInBounds_toArray, List.set_cons_zero, List.set_cons_succ, i64_w, i32_w]
                    rfl
                  refine pure_ (i := 9) (N := some 52) (v := ?_) (a' := ?_) #[true, true, true, true, true, true, true, true, true, true, false, false, false, false, false, false, false, false, false, false] rfl rfl (any_of HT_.out (by kernel_rfl)) (fun _ _ _ h => h) (Or.inl ⟨by rfl, ?_⟩) ?_ ?_
                  rotate_left
                  · intro w'
                    go_simp
                    with_reducible rfl
                  rotate_left
                  · simp only [Act.put, List.setIfInBounds_toArray, List.set_cons_zero, List.set_cons_succ, i64_w, i32_w]
                    rfl
                  refine one_ (i := 10) (N := some 53) #[true, true, true, true, true, true, true, true, true, true, true, false, false, false, false, false, false, false, false, false] rfl rfl (one_of HT_.out (by kernel_rfl)) (by decide) (fun K hK => ?_)
                  refine goes_ Tryd.func12 (by kernel_rfl) rfl #[.int .i64 (wrap64 ((wrap64 ((wrap64 (rd l0 0)) * 256)) + (wrap64 (rd l0 1))))] (by rfl) rfl rfl (by (try simp only [List.map_toArray, List.map_cons, List.map_nil]); first | done | rfl | (simp only [List.length_drop, List.length_take]; rfl)) ?_
                  with_reducible refine (dragomanref19_Unpack.calls k (wrap64 ((wrap64 ((wrap64 (rd l0 0)) * 256)) + (wrap64 (rd l0 1)))) t136 t137 t138 true _ A19.out).mono ?_
                  rintro e w25 ⟨rfl, hb⟩
                  refine ⟨_, rfl, ?_⟩
                  have n0_ := Aside0.mk (blk_below (g := gb128) (o := .cells #[.int .i64 0, .int .i64 0, .int .i64 0, .int .i32 0, .int .i32 0, .int .i64 0, .int .i64 0, .int .u32 0, .int .i32 0] 37 (0, 0)) (by (with_reducible repeat (first | refine blk_drewN ?_ _ | refine blk_drew ?_ | refine blk_alloc ?_ _)); exact BK128.out) hb)
                  have n1_ := Aside0.mk (below_step (by repeat (first | (with_reducible first | exact HB.out | apply below_alloc | apply pw_below_drewN | apply below_drew1 | refine below_set ?_ GE128.out) | exact HB.out)) hb)
                  clear BK128
                  clear HB
                  have BK128 := n0_
                  have HB := n1_
                  clear n0_ n1_
                  (try clear hb)
                  (try clear hb2)
                  (try clear hk)
                  (try clear hi)
                  refine hK.out _ _ ⟨((HB.out.cell (World.block_lt_of_cell? w _ hw134_0)).trans hw134_0), ((HB.out.cell (World.block_lt_of_cell? w _ hw135_0)).trans hw135_0)⟩ (fun hHeld => ?_)
                  clear hK K
                  refine norm_ (a' := ?_) ?_ ?_
                  rotate_left
                  · show Act.put _ (some 53) _ = _
                    simp only [Act.put, List.setIfInBounds_toArray, List.set_cons_zero, List.set_cons_succ, i64_w, i32_w]
                    rfl
                  refine pure_ (i := 11) (N := some 42) (v := ?_) (a' := ?_) #[true, true, true, true, true, true, true, true, true, true, true, true, false, false, false, false, false, false, false, false] rfl rfl (any_of HT_.out (by kernel_rfl)) (fun _ _ _ h => h) (Or.inl ⟨by rfl, ?_⟩) ?_ ?_
                  rotate_left
                  · intro w'
                    go_simp
                    with_reducible rfl
                  rotate_left
                  · simp only [Act.put, List.setIfInBounds_toArray, List.set_cons_zero, List.set_cons_succ, i64_w, i32_w]
                    rfl
                  refine pure_ (i := 12) (N := some 54) (v := ?_) (a' := ?_) #[true, true, true, true, true, true, true, true, true, true, true, true, true, false, false, false, false, false, false, false] rfl rfl (any_of HT_.out (by kernel_rfl)) (fun _ _ _ h => h) (Or.inl ⟨by rfl, ?_⟩) ?_ ?_
                  rotate_left
                  · intro w'
                    go_simp
                    with_reducible rfl
                  rotate_left
                  · simp only [Act.put, List.setIfInBounds_toArray, List.set_cons_zero, List.set_cons_succ, i64_w, i32_w]
                    rfl
                  refine pure_ (i := 13) (N := some 55) (v := ?_) (a' := ?_) #[true, true, true, true, true, true, true, true, true, true, true, true, true, true, false, false, false, false, false, false] rfl rfl (any_of HT_.out (by kernel_rfl)) (fun _ _ _ h => h) (Or.inl ⟨by rfl, ?_⟩) ?_ ?_
                  rotate_left
                  · intro w'
                    go_simp
                    with_reducible rfl
                  rotate_left
                  · simp only [Act.put, List.setIfInBounds_toArray, List.set_cons_zero, List.set_cons_succ, i64_w, i32_w]
                    rfl
                  refine pure_ (i := 14) (N := some 56) (v := ?_) (a' := ?_) #[true, true, true, true, true, true, true, true, true, true, true, true, true, true, true, false, false, false, false, false] rfl rfl (any_of HT_.out (by kernel_rfl)) (fun _ _ _ h => h) (Or.inl ⟨by rfl, ?_⟩) ?_ ?_
                  rotate_left
                  · intro w'
                    go_simp
                    with_reducible rfl
                  rotate_left
                  · simp only [Act.put, List.setIfInBounds_toArray, List.set_cons_zero, List.set_cons_succ, i64_w, i32_w]
                    rfl
                  refine pure_ (i := 15) (N := some 57) (v := ?_) (a' := ?_) #[true, true, true, true, true, true, true, true, true, true, true, true, true, true, true, true, false, false, false, false] rfl rfl (any_of HT_.out (by kernel_rfl)) (fun _ _ _ h => h) (Or.inl ⟨by rfl, ?_⟩) ?_ ?_
                  rotate_left
                  · intro w'
                    go_simp
                    with_reducible rfl
                  rotate_left
                  · simp only [Act.put, List.setIfInBounds_toArray, List.set_cons_zero, List.set_cons_succ, i64_w, i32_w]
                    rfl
                  refine pure_ (i := 16) (N := some 3) (v := ?_) (a' := ?_) #[true, true, true, true, true, true, true, true, true, true, true, true, true, true, true, true, true, false, false, false] rfl rfl (any_of HT_.out (by kernel_rfl)) (fun _ _ _ h => h) (Or.inl ⟨by rfl, ?_⟩) ?_ ?_
                  rotate_left
                  · intro w'
                    go_simp
                    with_reducible rfl
                  rotate_left
                  · simp only [Act.put, List.setIfInBounds_toArray, List.set_cons_zero, List.set_cons_succ, i64_w, i32_w]
                    rfl
                  refine pure_ (i := 17) (N := some 4) (v := ?_) (a' := ?_) #[true, true, true, true, true, true, true, true, true, true, true, true, true, true, true, true, true, true, false, false] rfl rfl (any_of HT_.out (by kernel_rfl)) (fun _ _ _ h => h) (Or.inl ⟨by rfl, ?_⟩) ?_ ?_
                  rotate_left
                  · intro w'
                    go_simp
                    with_reducible rfl
                  rotate_left
                  · simp only [Act.put, List.setIfInBounds_toArray, List.set_cons_zero, List.set_cons_succ, i64_w, i32_w]
                    rfl
                  refine pure_ (i := 18) (N := some 5) (v := ?_) (a' := ?_) #[true, true, true, true, true, true, true, true, true, true, true, true, true, true, true, true, true, true, true, false] rfl rfl (any_of HT_.out (by kernel_rfl)) (fun _ _ _ h => h) (Or.inl ⟨by rfl, ?_⟩) ?_ ?_
                  rotate_left
                  · intro w'
                    go_simp
                    with_reducible rfl
                  rotate_left
                  · simp only [Act.put, List.setIfInBounds_toArray, List.set_cons_zero, List.set_cons_succ, i64_w, i32_w]
                    rfl
                  refine pure_ (i := 19) (N := some 6) (v := ?_) (a' := ?_) #[true, true, true, true, true, true, true, true, true, true, true, true, true, true, true, true, true, true, true, true] rfl rfl (any_of HT_.out (by kernel_rfl)) (fun _ _ _ h => h) (Or.inl ⟨by rfl, ?_⟩) ?_ ?_
                  rotate_left
                  · intro w'
                    go_simp
                    with_reducible rfl
                  rotate_left
                  · simp only [Act.put, List.setIfInBounds_toArray, List.set_cons_zero, List.set_cons_succ, i64_w, i32_w]
                    rfl
                  refine done_ (done_of HT_.out (by kernel_rfl)) ?_
                  try go_wp2_with (first | ((with_reducible refine gate_callee (f := 19) rfl ?_); refine goesL_ (some 65) rfl rfl Tryd.func19 (by kernel_rfl) rfl #[.int .i64 t136, .int .i64 t137, .int .i64 t138] rfl (by (try simp only [List.map_toArray, List.map_cons, List.map_nil]); first | done | rfl | (simp only [List.length_drop, List.length_take]; rfl)) ?_; (with_reducible refine (dragomanref16_Syllable.calls t136 t137 t138 t140 t141 _ A21.out).mono ?_); rintro e w' ⟨rfl, ⟨nd, rfl⟩⟩; refine ⟨_, rfl, ?_⟩; (try (rw [drewN_self w25]; generalize hq_ : World.drewN w25 _ = w25; have n0_ : Aside0 (w25.heap[gb128]? = some (.cells #[.int .i64 0, .int .i64 0, .int .i64 0, .int .i32 0, .int .i32 0, .int .i64 0, .int .i64 0, .int .u32 0, .int .i32 0] 37 (0, 0))) := ⟨by rw [← hq_]; exact (by (with_reducible repeat (first | refine blk_drewN ?_ _ | refine blk_drew ?_ | refine blk_alloc ?_ _)); exact BK128.out)⟩; have n1_ : Aside0 (Below w.heap.size w w25) := ⟨by rw [← hq_]; exact (by repeat (first | (with_reducible first | exact HB.out | apply below_alloc | apply pw_below_drewN | apply below_drew1 | refine below_set ?_ GE128.out) | exact HB.out))⟩; clear BK128 HB hq_; have BK128 := n0_; have HB := n1_; clear n0_ n1_)); have hcz26_0 : w25.cell? ⟨gb128, 0, none⟩ = some (.int .i64 0) := (blk_cell BK128.out 0).trans rfl; have hcz26_1 : w25.cell? ⟨gb128, 1, none⟩ = some (.int .i64 0) := (blk_cell BK128.out 1).trans rfl; have hcz26_2 : w25.cell? ⟨gb128, 2, none⟩ = some (.int .i64 0) := (blk_cell BK128.out 2).trans rfl; have hcz26_3 : w25.cell? ⟨gb128, 3, none⟩ = some (.int .i32 0) := (blk_cell BK128.out 3).trans rfl; have hcz26_4 : w25.cell? ⟨gb128, 4, none⟩ = some (.int .i32 0) := (blk_cell BK128.out 4).trans rfl; have hcz26_5 : w25.cell? ⟨gb128, 5, none⟩ = some (.int .i64 0) := (blk_cell BK128.out 5).trans rfl; have hcz26_6 : w25.cell? ⟨gb128, 6, none⟩ = some (.int .i64 0) := (blk_cell BK128.out 6).trans rfl; have hcz26_7 : w25.cell? ⟨gb128, 7, none⟩ = some (.int .u32 0) := (blk_cell BK128.out 7).trans rfl; have hcz26_8 : w25.cell? ⟨gb128, 8, none⟩ = some (.int .i32 0) := (blk_cell BK128.out 8).trans rfl; have hfz26_0 := blk_frozen BK128.out 0; have hfz26_1 := blk_frozen BK128.out 1; have hfz26_2 := blk_frozen BK128.out 2; have hfz26_3 := blk_frozen BK128.out 3; have hfz26_4 := blk_frozen BK128.out 4; have hfz26_5 := blk_frozen BK128.out 5; have hfz26_6 := blk_frozen BK128.out 6; have hfz26_7 := blk_frozen BK128.out 7; have hfz26_8 := blk_frozen BK128.out 8))
                  refine bodyPost_ret (results_cell_row rfl _ _ gb128 37 #[.int .i64 0, .int .i64 2, .int .i64 1, .int .i32 t140, .int .i32 0, .int .i64 0, .int .i64 0, .int .u32 0, .int .i32 0] (0, 0) _ rfl (by (with_reducible repeat (first | refine blk_drewN ?_ _ | refine blk_drew ?_ | refine blk_alloc ?_ _)); refine blk_put (cs := #[.int .i64 0, .int .i64 2, .int .i64 1, .int .i32 t140, .int .i32 0, .int .i64 0, .int .i64 0, .int .u32 0, .int .i32 0]) ?_ 8 _ rfl; (with_reducible repeat (first | refine blk_drewN ?_ _ | refine blk_drew ?_ | refine blk_alloc ?_ _)); refine blk_put (cs := #[.int .i64 0, .int .i64 2, .int .i64 1, .int .i32 t140, .int .i32 0, .int .i64 0, .int .i64 0, .int .u32 0, .int .i32 0]) ?_ 7 _ rfl; (with_reducible repeat (first | refine blk_drewN ?_ _ | refine blk_drew ?_ | refine blk_alloc ?_ _)); refine blk_put (cs := #[.int .i64 0, .int .i64 2, .int .i64 1, .int .i32 t140, .int .i32 0, .int .i64 0, .int .i64 0, .int .u32 0, .int .i32 0]) ?_ 6 _ rfl; (with_reducible repeat (first | refine blk_drewN ?_ _ | refine blk_drew ?_ | refine blk_alloc ?_ _)); refine blk_put (cs := #[.int .i64 0, .int .i64 2, .int .i64 1, .int .i32 t140, .int .i32 0, .int .i64 0, .int .i64 0, .int .u32 0, .int .i32 0]) ?_ 5 _ rfl; (with_reducible repeat (first | refine blk_drewN ?_ _ | refine blk_drew ?_ | refine blk_alloc ?_ _)); refine blk_put (cs := #[.int .i64 0, .int .i64 2, .int .i64 1, .int .i32 t140, .int .i32 0, .int .i64 0, .int .i64 0, .int .u32 0, .int .i32 0]) ?_ 4 _ rfl; (with_reducible repeat (first | refine blk_drewN ?_ _ | refine blk_drew ?_ | refine blk_alloc ?_ _)); refine blk_put (cs := #[.int .i64 0, .int .i64 2, .int .i64 1, .int .i32 0, .int .i32 0, .int .i64 0, .int .i64 0, .int .u32 0, .int .i32 0]) ?_ 3 _ rfl; (with_reducible repeat (first | refine blk_drewN ?_ _ | refine blk_drew ?_ | refine blk_alloc ?_ _)); refine blk_put (cs := #[.int .i64 0, .int .i64 2, .int .i64 0, .int .i32 0, .int .i32 0, .int .i64 0, .int .i64 0, .int .u32 0, .int .i32 0]) ?_ 2 _ rfl; (with_reducible repeat (first | refine blk_drewN ?_ _ | refine blk_drew ?_ | refine blk_alloc ?_ _)); refine blk_put (cs := #[.int .i64 0, .int .i64 0, .int .i64 0, .int .i32 0, .int .i32 0, .int .i64 0, .int .i64 0, .int .u32 0, .int .i32 0]) ?_ 1 _ rfl; (with_reducible repeat (first | refine blk_drewN ?_ _ | refine blk_drew ?_ | refine blk_alloc ?_ _)); refine blk_put (cs := #[.int .i64 0, .int .i64 0, .int .i64 0, .int .i32 0, .int .i32 0, .int .i64 0, .int .i64 0, .int .u32 0, .int .i32 0]) ?_ 0 _ rfl; (with_reducible repeat (first | refine blk_drewN ?_ _ | refine blk_drew ?_ | refine blk_alloc ?_ _)); exact BK128.out) Tryd.underlying37 rfl (by kernel_rfl)) rfl ?_
                  exact ⟨by first | rfl | (simp [errW_none, errW_some] <;> rfl) | (simp [*, errW_none, errW_some] <;> rfl), by repeat (first | (with_reducible first | exact HB.out | apply below_alloc | apply pw_below_drewN | apply below_drew1 | refine below_set ?_ GE128.out) | exact HB.out)⟩
                · replace c20 := Bool.eq_false_iff.mpr c20
                  subst c20
                  have H1 : (some (10, 2, 0, 0, 0, 0, 0, 0, 0)) = some (r1, r2, r3, r4, r5, r6, r7, r8, r9) := by rw [if_neg (show ¬ (false = true) by decide)] at H; exact H
                  clear H
                  have H := H1
                  clear H1
                  simp only [Option.some.injEq, Prod.mk.injEq] at H
                  obtain ⟨rfl, rfl, rfl, rfl, rfl, rfl, rfl, rfl, rfl⟩ := H
                  go_enter Tryd.func16, Tryd.ntmps16
                  try go_wp2_with (first | ((with_reducible refine gate_dst (N := 2) rfl ?_); refine box_event ?hg (N := 2) ?hd (cs := #[.int .i64 0, .int .i64 0, .int .i64 0, .int .i32 0, .int .i32 0, .int .i64 0, .int .i64 0, .int .u32 0, .int .i32 0]) (t := 37) ?hr ?_; (case hd => rfl); (case hg => rfl); (case hr => first | (go_simp; done) | (go_simp; rfl)); intro gb128 hg w27 hbox hb; have n0_ := Aside0.mk (below_step (by repeat (first | (with_reducible first | exact HB.out | apply below_alloc | apply pw_below_drewN | apply below_drew1) | exact HB.out)) hb); have n1_ := Aside0.mk (hbox); have n2_ := Aside0.mk ((by rw [hg]; exact (below_size (by repeat (first | (with_reducible first | exact HB.out | apply below_alloc | apply pw_below_drewN | apply below_drew1) | exact HB.out))) : w.heap.size ≤ gb128)); have n3_ := Aside0.mk ((by rw [hg]; exact (below_size (by repeat (first | (with_reducible first | exact HB.out | apply below_alloc | apply pw_below_drewN | apply below_drew1) | exact HB.out))) : w.heap.size ≤ gb128)); clear HB; have HB := n0_; have BK128 := n1_; have GW128 := n2_; have GE128 := n3_; clear n0_ n1_ n2_ n3_; clear hb hbox hg; have p129 : 0 ≤ (0 : Int) := (by omega); have q129 : 0 < (l0.length : Int) := of_decide_eq_true (by first | (with_reducible assumption) | assumption); obtain ⟨ad129, e129, hx129_0⟩ := Kd.at_int HR0.out 0 p129 q129; cases e129; have qi129 : (0 < l0.length) = True := eq_true (by omega); (try rw [show ((0 : Int)).toNat = 0 from rfl] at hx129_0); (try rw [Addr.add_zero'] at hx129_0); replace hx129_0 := (HB.out.cell (World.block_lt_of_cell? w _ hx129_0)).trans hx129_0; replace p129 := eq_true p129; replace q129 := eq_true q129; have p130 : 0 ≤ (0 : Int) := (by omega); have q130 : 0 < (l0.length : Int) := of_decide_eq_true (by first | (with_reducible assumption) | assumption); obtain ⟨ad130, e130, hx130_0⟩ := Kd.at_int HR0.out 0 p130 q130; obtain rfl : ad129 = ad130 := (by injection e130); have qi130 : (0 < l0.length) = True := eq_true (by omega); (try rw [show ((0 : Int)).toNat = 0 from rfl] at hx130_0); (try rw [Addr.add_zero'] at hx130_0); replace hx130_0 := (HB.out.cell (World.block_lt_of_cell? w _ hx130_0)).trans hx130_0; replace p130 := eq_true p130; replace q130 := eq_true q130; have p132 : 0 ≤ (0 : Int) := (by omega); have q132 : 0 < (l0.length : Int) := of_decide_eq_true (by first | (with_reducible assumption) | assumption); obtain ⟨ad132, e132, hx132_0⟩ := Kd.at_int HR0.out 0 p132 q132; obtain rfl : ad129 = ad132 := (by injection e132); have qi132 : (0 < l0.length) = True := eq_true (by omega); (try rw [show ((0 : Int)).toNat = 0 from rfl] at hx132_0); (try rw [Addr.add_zero'] at hx132_0); replace hx132_0 := (HB.out.cell (World.block_lt_of_cell? w _ hx132_0)).trans hx132_0; replace p132 := eq_true p132; replace q132 := eq_true q132) | ((with_reducible refine gate_callee (f := 28) rfl ?_); refine goesL_ (some 34) rfl rfl Tryd.func28 (by kernel_rfl) rfl #[.int .u8 (rd l0 0)] rfl (by (try simp only [List.map_toArray, List.map_cons, List.map_nil]); first | done | rfl | (simp only [List.length_drop, List.length_take]; rfl)) ?_; (with_reducible refine (dragomanref19_begins.calls k (rd l0 0) true _ A12.out).mono ?_); rintro e w28 ⟨rfl, hb⟩; refine ⟨_, rfl, ?_⟩; have n0_ := Aside0.mk (blk_below (g := gb128) (o := .cells #[.int .i64 0, .int .i64 0, .int .i64 0, .int .i32 0, .int .i32 0, .int .i64 0, .int .i64 0, .int .u32 0, .int .i32 0] 37 (0, 0)) (by (with_reducible repeat (first | refine blk_drewN ?_ _ | refine blk_drew ?_ | refine blk_alloc ?_ _)); exact BK128.out) hb); have n1_ := Aside0.mk (below_step (by repeat (first | (with_reducible first | exact HB.out | apply below_alloc | apply pw_below_drewN | apply below_drew1 | refine below_set ?_ GE128.out) | exact HB.out)) hb); clear BK128; clear HB; have BK128 := n0_; have HB := n1_; clear n0_ n1_; (try clear hb); (try clear hb2); (try clear hk); (try clear hi)))
                  have n0_ := Aside0.mk (blk_drew BK128.out)
                  have n1_ := Aside0.mk (below_drew1 HB.out)
                  clear BK128
                  clear HB
                  have BK128 := n0_
                  have HB := n1_
                  clear n0_ n1_
                  have p134 : 0 ≤ (0 : Int) := (by omega)
                  have q134 : 0 < (l0.length : Int) := of_decide_eq_true (by first | (with_reducible assumption) | assumption)
                  obtain ⟨ad134, e134, hx134_0⟩ := Kd.at_int HR0.out 0 p134 q134
                  have hw134_0 := hx134_0
                  (try rw [show ((0 : Int)).toNat = 0 from rfl] at hw134_0)
                  (try rw [show 0 * 1 = 0 from rfl] at hw134_0)
                  (try rw [Addr.add_zero'] at hw134_0)
                  obtain rfl : ad129 = ad134 := (by injection e134)
                  have qi134 : (0 < l0.length) = True := eq_true (by omega)
                  (try rw [show ((0 : Int)).toNat = 0 from rfl] at hx134_0)
                  (try rw [Addr.add_zero'] at hx134_0)
                  replace hx134_0 := (HB.out.cell (World.block_lt_of_cell? w _ hx134_0)).trans hx134_0
                  replace p134 := eq_true p134
                  replace q134 := eq_true q134
                  have p135 : 0 ≤ (1 : Int) := (by omega)
                  have q135 : 1 < (l0.length : Int) := of_decide_eq_true (by first | (with_reducible assumption) | assumption)
                  obtain ⟨ad135, e135, hx135_0⟩ := Kd.at_int HR0.out 1 p135 q135
                  have hw135_0 := hx135_0
                  (try rw [show ((1 : Int)).toNat = 1 from rfl] at hw135_0)
                  (try rw [show 1 * 1 = 1 from rfl] at hw135_0)
                  (try simp only [Nat.reduceMul, Nat.reduceEqDiff, Go.Addr.add, ↓reduceIte] at hw135_0)
                  obtain rfl : ad129 = ad135 := (by injection e135)
                  (try simp only [show (1 : Int).toNat = 1 from rfl, Nat.reduceMul, Nat.reduceEqDiff, Go.Addr.add, ↓reduceIte] at hx135_0)
                  have qi135 : (1 < l0.length) = True := eq_true (by omega)
                  (try rw [show ((1 : Int)).toNat = 1 from rfl] at hx135_0)
                  replace hx135_0 := (HB.out.cell (World.block_lt_of_cell? w _ hx135_0)).trans hx135_0
                  replace p135 := eq_true p135
                  replace q135 := eq_true q135
                  refine start_ (n := 20) (S := fun w' => w'.cell? ad129 = some (.int .u8 (rd l0 0)) ∧ w'.cell? ⟨ad129.block, ad129.off + 1, none⟩ = some (.int .u8 (rd l0 1))) (ds := []) #[false, false, false, false, false, false, false, false, false, false, false, false, false, false, false, false, false, false, false, false] (by kernel_rfl) rfl rfl ⟨((HB.out.cell (World.block_lt_of_cell? w _ hw134_0)).trans hw134_0), ((HB.out.cell (World.block_lt_of_cell? w _ hw135_0)).trans hw135_0)⟩ (fun hHeld => ?_); refine with_tabW dragomanref19_Get.tab11 dragomanref19_Get.bits11 (fun HT_ HW_ => ?_)
                  generalize w28.drew = w29 at BK128 HB hx134_0 hx135_0 hHeld ⊢
                  refine pure_ (i := 0) (N := some 43) (v := ?_) (a' := ?_) #[true, false, false, false, false, false, false, false, false, false, false, false, false, false, false, false, false, false, false, false] rfl rfl (any_of HT_.out (by kernel_rfl)) (fun _ _ _ h => h) (Or.inl ⟨by rfl, ?_⟩) ?_ ?_
                  rotate_left
                  · intro w'
                    go_simp
                    with_reducible rfl
                  rotate_left
                  · simp only [Act.put, List.setIfInBounds_toArray, List.set_cons_zero, List.set_cons_succ, i64_w, i32_w]
                    rfl
                  refine pure_ (i := 1) (N := some 44) (v := ?_) (a' := ?_) #[true, true, false, false, false, false, false, false, false, false, false, false, false, false, false, false, false, false, false, false] rfl rfl (any_of HT_.out (by kernel_rfl)) (fun _ _ _ h => h) (Or.inl ⟨by rfl, ?_⟩) ?_ ?_
                  rotate_left
                  · intro w'
                    go_simp
                    with_reducible rfl
                  rotate_left
                  · simp only [Act.put, List.setIfInBounds_toArray, List.set_cons_zero, List.set_cons_succ, i64_w, i32_w]
                    rfl
                  refine pure_ (i := 5) (N := some 48) (v := ?_) (a' := ?_) #[true, true, false, false, false, true, false, false, false, false, false, false, false, false, false, false, false, false, false, false] rfl rfl (any_of HT_.out (by kernel_rfl)) (fun _ _ _ h => h) (Or.inl ⟨by rfl, ?_⟩) ?_ ?_
                  rotate_left
                  · intro w'
                    go_simp
                    with_reducible rfl
                  rotate_left
                  · simp only [Act.put, List.setIfInBounds_toArray, List.set_cons_zero, List.set_cons_succ, i64_w, i32_w]
                    rfl
                  refine pure_ (i := 6) (N := some 49) (v := ?_) (a' := ?_) #[true, true, false, false, false, true, true, false, false, false, false, false, false, false, false, false, false, false, false, false] rfl rfl (any_of HT_.out (by kernel_rfl)) (fun _ _ _ h => h) (Or.inl ⟨by rfl, ?_⟩) ?_ ?_
                  rotate_left
                  · intro w'
                    go_simp
                    with_reducible rfl
                  rotate_left
                  · simp only [Act.put, List.setIfInBounds_toArray, List.set_cons_zero, List.set_cons_succ, i64_w, i32_w]
                    rfl
                  refine take_ (i := 2) (N := some 45) (v := ?_) (a' := ?_) #[true, true, true, false, false, true, true, false, false, false, false, false, false, false, false, false, false, false, false, false] rfl rfl (take_ofW HT_.out HW_.out (by kernel_rfl)) (fun _ _ _ h => h) (Or.inl ⟨by rfl, ?_⟩) hHeld ?_ ?_
                  rotate_left
                  · rintro w' ⟨s0, s1⟩
                    go_simp
                    with_reducible rfl
                  rotate_left
                  · simp only [Act.put, List.setIfInBounds_toArray, List.set_cons_zero, List.set_cons_succ, i64_w, i32_w]
                    rfl
                  refine pure_ (i := 3) (N := some 46) (v := ?_) (a' := ?_) #[true, true, true, true, false, true, true, false, false, false, false, false, false, false, false, false, false, false, false, false] rfl rfl (any_of HT_.out (by kernel_rfl)) (fun _ _ _ h => h) (Or.inl ⟨by rfl, ?_⟩) ?_ ?_
                  rotate_left
                  · intro w'
                    go_simp
                    with_reducible rfl
                  rotate_left
                  · simp only [Act.put, List.setIfInBounds_toArray, List.set_cons_zero, List.set_cons_succ, i64_w, i32_w]
                    rfl
                  refine pure_ (i := 4) (N := some 47) (v := ?_) (a' := ?_) #[true, true, true, true, true, true, true, false, false, false, false, false, false, false, false, false, false, false, false, false] rfl rfl (any_of HT_.out (by kernel_rfl)) (fun _ _ _ h => h) (Or.inl ⟨by rfl, ?_⟩) ?_ ?_
                  rotate_left
                  · intro w'
                    go_simp
                    with_reducible rfl
                  rotate_left
                  · simp only [Act.put, List.setIfInBounds_toArray, List.set_cons_zero, List.set_cons_succ, i64_w, i32_w]
                    rfl
                  refine take_ (i := 7) (N := some 50) (v := ?_) (a' := ?_) #[true, true, true, true, true, true, true, true, false, false, false, false, false, false, false, false, false, false, false, false] rfl rfl (take_ofW HT_.out HW_.out (by kernel_rfl)) (fun _ _ _ h => h) (Or.inl ⟨by rfl, ?_⟩) hHeld ?_ ?_
                  rotate_left
                  · rintro w' ⟨s0, s1⟩
                    go_simp
                    with_reducible rfl
                  rotate_left
                  · simp only [Act.put, List.setIfInBounds_toArray, List.set_cons_zero, List.set_cons_succ, i64_w, i32_w]
                    rfl
                  refine pure_ (i := 8) (N := some 51) (v := ?_) (a' := ?_) #[true, true, true, true, true, true, true, true, true, false, false, false, false, false, false, false, false, false, false, false] rfl rfl (any_of HT_.out (by kernel_rfl)) (fun _ _ _ h => h) (Or.inl ⟨by rfl, ?_⟩) ?_ ?_
                  rotate_left
                  · intro w'
                    go_simp
                    with_reducible rfl
                  rotate_left
                  · simp only [Act.put, List.setIfInBounds_toArray, List.set_cons_zero, List.set_cons_succ, i64_w, i32_w]
                    rfl
                  refine pure_ (i := 9) (N := some 52) (v := ?_) (a' := ?_) #[true, true, true, true, true, true, true, true, true, true, false, false, false, false, false, false, false, false, false, false] rfl rfl (any_of HT_.out (by kernel_rfl)) (fun _ _ _ h => h) (Or.inl ⟨by rfl, ?_⟩) ?_ ?_
                  rotate_left
                  · intro w'
                    go_simp
                    with_reducible rfl
                  rotate_left
                  · simp only [Act.put, List.setIfInBounds_toArray, List.set_cons_zero, List.set_cons_succ, i64_w, i32_w]
                    rfl
                  refine one_ (i := 10) (N := some 53) #[true, true, true, true, true, true, true, true, true, true, true, false, false, false, false, false, false, false, false, false] rfl rfl (one_of HT_.out (by kernel_rfl)) (by decide) (fun K hK => ?_)
                  refine goes_ Tryd.func12 (by kernel_rfl) rfl #[.int .i64 (wrap64 ((wrap64 ((wrap64 (rd l0 0)) * 256)) + (wrap64 (rd l0 1))))] (by rfl) rfl rfl (by (try simp only [List.map_toArray, List.map_cons, List.map_nil]); first | done | rfl | (simp only [List.length_drop, List.length_take]; rfl)) ?_
                  with_reducible refine (dragomanref19_Unpack.calls k (wrap64 ((wrap64 ((wrap64 (rd l0 0)) * 256)) + (wrap64 (rd l0 1)))) t136 t137 t138 false _ A19.out).mono ?_
                  rintro e w30 ⟨rfl, hb⟩
                  refine ⟨_, rfl, ?_⟩
                  have n0_ := Aside0.mk (blk_below (g := gb128) (o := .cells #[.int .i64 0, .int .i64 0, .int .i64 0, .int .i32 0, .int .i32 0, .int .i64 0, .int .i64 0, .int .u32 0, .int .i32 0] 37 (0, 0)) (by (with_reducible repeat (first | refine blk_drewN ?_ _ | refine blk_drew ?_ | refine blk_alloc ?_ _)); exact BK128.out) hb)
                  have n1_ := Aside0.mk (below_step (by repeat (first | (with_reducible first | exact HB.out | apply below_alloc | apply pw_below_drewN | apply below_drew1 | refine below_set ?_ GE128.out) | exact HB.out)) hb)
                  clear BK128
                  clear HB
                  have BK128 := n0_
                  have HB := n1_
                  clear n0_ n1_
                  (try clear hb)
                  (try clear hb2)
                  (try clear hk)
                  (try clear hi)
                  refine hK.out _ _ ⟨((HB.out.cell (World.block_lt_of_cell? w _ hw134_0)).trans hw134_0), ((HB.out.cell (World.block_lt_of_cell? w _ hw135_0)).trans hw135_0)⟩ (fun hHeld => ?_)
                  clear hK K
                  refine norm_ (a' := ?_) ?_ ?_
                  rotate_left
                  · show Act.put _ (some 53) _ = _
                    simp only [Act.put, List.setIfInBounds_toArray, List.set_cons_zero, List.set_cons_succ, i64_w, i32_w]
                    rfl
                  refine pure_ (i := 11) (N := some 42) (v := ?_) (a' := ?_) #[true, true, true, true, true, true, true, true, true, true, true, true, false, false, false, false, false, false, false, false] rfl rfl (any_of HT_.out (by kernel_rfl)) (fun _ _ _ h => h) (Or.inl ⟨by rfl, ?_⟩) ?_ ?_
                  rotate_left
                  · intro w'
                    go_simp
                    with_reducible rfl
                  rotate_left
                  · simp only [Act.put, List.setIfInBounds_toArray, List.set_cons_zero, List.set_cons_succ, i64_w, i32_w]
                    rfl
                  refine pure_ (i := 12) (N := some 54) (v := ?_) (a' := ?_) #[true, true, true, true, true, true, true, true, true, true, true, true, true, false, false, false, false, false, false, false] rfl rfl (any_of HT_.out (by kernel_rfl)) (fun _ _ _ h => h) (Or.inl ⟨by rfl, ?_⟩) ?_ ?_
                  rotate_left
                  · intro w'
                    go_simp
                    with_reducible rfl
                  rotate_left
                  · simp only [Act.put, List.setIfInBounds_toArray, List.set_cons_zero, List.set_cons_succ, i64_w, i32_w]
                    rfl
                  refine pure_ (i := 13) (N := some 55) (v := ?_) (a' := ?_) #[true, true, true, true, true, true, true, true, true, true, true, true, true, true, false, false, false, false, false, false] rfl rfl (any_of HT_.out (by kernel_rfl)) (fun _ _ _ h => h) (Or.inl ⟨by rfl, ?_⟩) ?_ ?_
                  rotate_left
                  · intro w'
                    go_simp
                    with_reducible rfl
                  rotate_left
                  · simp only [Act.put, List.setIfInBounds_toArray, List.set_cons_zero, List.set_cons_succ, i64_w, i32_w]
                    rfl
                  refine pure_ (i := 14) (N := some 56) (v := ?_) (a' := ?_) #[true, true, true, true, true, true, true, true, true, true, true, true, true, true, true, false, false, false, false, false] rfl rfl (any_of HT_.out (by kernel_rfl)) (fun _ _ _ h => h) (Or.inl ⟨by rfl, ?_⟩) ?_ ?_
                  rotate_left
                  · intro w'
                    go_simp
                    with_reducible rfl
                  rotate_left
                  · simp only [Act.put, List.setIfInBounds_toArray, List.set_cons_zero, List.set_cons_succ, i64_w, i32_w]
                    rfl
                  refine pure_ (i := 15) (N := some 57) (v := ?_) (a' := ?_) #[true, true, true, true, true, true, true, true, true, true, true, true, true, true, true, true, false, false, false, false] rfl rfl (any_of HT_.out (by kernel_rfl)) (fun _ _ _ h => h) (Or.inl ⟨by rfl, ?_⟩) ?_ ?_
                  rotate_left
                  · intro w'
                    go_simp
                    with_reducible rfl
                  rotate_left
                  · simp only [Act.put, List.setIfInBounds_toArray, List.set_cons_zero, List.set_cons_succ, i64_w, i32_w]
                    rfl
                  refine pure_ (i := 16) (N := some 3) (v := ?_) (a' := ?_) #[true, true, true, true, true, true, true, true, true, true, true, true, true, true, true, true, true, false, false, false] rfl rfl (any_of HT_.out (by kernel_rfl)) (fun _ _ _ h => h) (Or.inl ⟨by rfl, ?_⟩) ?_ ?_
                  rotate_left
                  · intro w'
                    go_simp
                    with_reducible rfl
                  rotate_left
                  · simp only [Act.put, List.setIfInBounds_toArray, List.set_cons_zero, List.set_cons_succ, i64_w, i32_w]
                    rfl
                  refine pure_ (i := 17) (N := some 4) (v := ?_) (a' := ?_) #[true, true, true, true, true, true, true, true, true, true, true, true, true, true, true, true, true, true, false, false] rfl rfl (any_of HT_.out (by kernel_rfl)) (fun _ _ _ h => h) (Or.inl ⟨by rfl, ?_⟩) ?_ ?_
                  rotate_left
                  · intro w'
                    go_simp
                    with_reducible rfl
                  rotate_left
                  · simp only [Act.put, List.setIfInBounds_toArray, List.set_cons_zero, List.set_cons_succ, i64_w, i32_w]
                    rfl
                  refine pure_ (i := 18) (N := some 5) (v := ?_) (a' := ?_) #[true, true, true, true, true, true, true, true, true, true, true, true, true, true, true, true, true, true, true, false] rfl rfl (any_of HT_.out (by kernel_rfl)) (fun _ _ _ h => h) (Or.inl ⟨by rfl, ?_⟩) ?_ ?_
                  rotate_left
                  · intro w'
                    go_simp
                    with_reducible rfl
                  rotate_left
                  · simp only [Act.put, List.setIfInBounds_toArray, List.set_cons_zero, List.set_cons_succ, i64_w, i32_w]
                    rfl
                  refine pure_ (i := 19) (N := some 6) (v := ?_) (a' := ?_) #[true, true, true, true, true, true, true, true, true, true, true, true, true, true, true, true, true, true, true, true] rfl rfl (any_of HT_.out (by kernel_rfl)) (fun _ _ _ h => h) (Or.inl ⟨by rfl, ?_⟩) ?_ ?_
                  rotate_left
                  · intro w'
                    go_simp
                    with_reducible rfl
                  rotate_left
                  · simp only [Act.put, List.setIfInBounds_toArray, List.set_cons_zero, List.set_cons_succ, i64_w, i32_w]
                    rfl
                  refine done_ (done_of HT_.out (by kernel_rfl)) ?_
                  have hcz31_0 : w30.cell? ⟨gb128, 0, none⟩ = some (.int .i64 0) := (blk_cell BK128.out 0).trans rfl
                  have hcz31_1 : w30.cell? ⟨gb128, 1, none⟩ = some (.int .i64 0) := (blk_cell BK128.out 1).trans rfl
                  have hcz31_2 : w30.cell? ⟨gb128, 2, none⟩ = some (.int .i64 0) := (blk_cell BK128.out 2).trans rfl
                  have hcz31_3 : w30.cell? ⟨gb128, 3, none⟩ = some (.int .i32 0) := (blk_cell BK128.out 3).trans rfl
                  have hcz31_4 : w30.cell? ⟨gb128, 4, none⟩ = some (.int .i32 0) := (blk_cell BK128.out 4).trans rfl
                  have hcz31_5 : w30.cell? ⟨gb128, 5, none⟩ = some (.int .i64 0) := (blk_cell BK128.out 5).trans rfl
                  have hcz31_6 : w30.cell? ⟨gb128, 6, none⟩ = some (.int .i64 0) := (blk_cell BK128.out 6).trans rfl
                  have hcz31_7 : w30.cell? ⟨gb128, 7, none⟩ = some (.int .u32 0) := (blk_cell BK128.out 7).trans rfl
                  have hcz31_8 : w30.cell? ⟨gb128, 8, none⟩ = some (.int .i32 0) := (blk_cell BK128.out 8).trans rfl
                  have hfz31_0 := blk_frozen BK128.out 0
                  have hfz31_1 := blk_frozen BK128.out 1
                  have hfz31_2 := blk_frozen BK128.out 2
                  have hfz31_3 := blk_frozen BK128.out 3
                  have hfz31_4 := blk_frozen BK128.out 4
                  have hfz31_5 := blk_frozen BK128.out 5
                  have hfz31_6 := blk_frozen BK128.out 6
                  have hfz31_7 := blk_frozen BK128.out 7
                  have hfz31_8 := blk_frozen BK128.out 8
                  try go_wp2
                  refine bodyPost_ret (results_cell_row rfl _ _ gb128 37 #[.int .i64 10, .int .i64 2, .int .i64 0, .int .i32 0, .int .i32 0, .int .i64 0, .int .i64 0, .int .u32 0, .int .i32 0] (0, 0) _ rfl (by (with_reducible repeat (first | refine blk_drewN ?_ _ | refine blk_drew ?_ | refine blk_alloc ?_ _)); refine blk_put (cs := #[.int .i64 10, .int .i64 2, .int .i64 0, .int .i32 0, .int .i32 0, .int .i64 0, .int .i64 0, .int .u32 0, .int .i32 0]) ?_ 8 _ rfl; (with_reducible repeat (first | refine blk_drewN ?_ _ | refine blk_drew ?_ | refine blk_alloc ?_ _)); refine blk_put (cs := #[.int .i64 10, .int .i64 2, .int .i64 0, .int .i32 0, .int .i32 0, .int .i64 0, .int .i64 0, .int .u32 0, .int .i32 0]) ?_ 7 _ rfl; (with_reducible repeat (first | refine blk_drewN ?_ _ | refine blk_drew ?_ | refine blk_alloc ?_ _)); refine blk_put (cs := #[.int .i64 10, .int .i64 2, .int .i64 0, .int .i32 0, .int .i32 0, .int .i64 0, .int .i64 0, .int .u32 0, .int .i32 0]) ?_ 6 _ rfl; (with_reducible repeat (first | refine blk_drewN ?_ _ | refine blk_drew ?_ | refine blk_alloc ?_ _)); refine blk_put (cs := #[.int .i64 10, .int .i64 2, .int .i64 0, .int .i32 0, .int .i32 0, .int .i64 0, .int .i64 0, .int .u32 0, .int .i32 0]) ?_ 5 _ rfl; (with_reducible repeat (first | refine blk_drewN ?_ _ | refine blk_drew ?_ | refine blk_alloc ?_ _)); refine blk_put (cs := #[.int .i64 10, .int .i64 2, .int .i64 0, .int .i32 0, .int .i32 0, .int .i64 0, .int .i64 0, .int .u32 0, .int .i32 0]) ?_ 4 _ rfl; (with_reducible repeat (first | refine blk_drewN ?_ _ | refine blk_drew ?_ | refine blk_alloc ?_ _)); refine blk_put (cs := #[.int .i64 10, .int .i64 2, .int .i64 0, .int .i32 0, .int .i32 0, .int .i64 0, .int .i64 0, .int .u32 0, .int .i32 0]) ?_ 3 _ rfl; (with_reducible repeat (first | refine blk_drewN ?_ _ | refine blk_drew ?_ | refine blk_alloc ?_ _)); refine blk_put (cs := #[.int .i64 10, .int .i64 2, .int .i64 0, .int .i32 0, .int .i32 0, .int .i64 0, .int .i64 0, .int .u32 0, .int .i32 0]) ?_ 2 _ rfl; (with_reducible repeat (first | refine blk_drewN ?_ _ | refine blk_drew ?_ | refine blk_alloc ?_ _)); refine blk_put (cs := #[.int .i64 10, .int .i64 0, .int .i64 0, .int .i32 0, .int .i32 0, .int .i64 0, .int .i64 0, .int .u32 0, .int .i32 0]) ?_ 1 _ rfl; (with_reducible repeat (first | refine blk_drewN ?_ _ | refine blk_drew ?_ | refine blk_alloc ?_ _)); refine blk_put (cs := #[.int .i64 0, .int .i64 0, .int .i64 0, .int .i32 0, .int .i32 0, .int .i64 0, .int .i64 0, .int .u32 0, .int .i32 0]) ?_ 0 _ rfl; (with_reducible repeat (first | refine blk_drewN ?_ _ | refine blk_drew ?_ | refine blk_alloc ?_ _)); exact BK128.out) Tryd.underlying37 rfl (by kernel_rfl)) rfl ?_
                  exact ⟨by first | rfl | (simp [errW_none, errW_some] <;> rfl) | (simp [*, errW_none, errW_some] <;> rfl), by repeat (first | (with_reducible first | exact HB.out | apply below_alloc | apply pw_below_drewN | apply below_drew1 | refine below_set ?_ GE128.out) | exact HB.out)⟩
              · rw [if_neg c18] at H
                exact absurd H (by simp)
          · replace c13 := Bool.eq_false_iff.mpr c13
            subst c13
            have H1 : (some (10, 1, 0, 0, 0, 0, 0, 0, 0)) = some (r1, r2, r3, r4, r5, r6, r7, r8, r9) := by rw [if_neg (show ¬ (false = true) by decide)] at H; exact H
            clear H
            have H := H1
            clear H1
            simp only [Option.some.injEq, Prod.mk.injEq] at H
            obtain ⟨rfl, rfl, rfl, rfl, rfl, rfl, rfl, rfl, rfl⟩ := H
            go_enter Tryd.func16, Tryd.ntmps16
            go_wp2_with (first | ((with_reducible refine gate_dst (N := 2) rfl ?_); refine box_event ?hg (N := 2) ?hd (cs := #[.int .i64 0, .int .i64 0, .int .i64 0, .int .i32 0, .int .i32 0, .int .i64 0, .int .i64 0, .int .u32 0, .int .i32 0]) (t := 37) ?hr ?_; (case hd => rfl); (case hg => rfl); (case hr => first | (go_simp; done) | (go_simp; rfl)); intro gb128 hg w32 hbox hb; have n0_ := Aside0.mk (below_step (by repeat (first | (with_reducible first | exact HB.out | apply below_alloc | apply pw_below_drewN | apply below_drew1) | exact HB.out)) hb); have n1_ := Aside0.mk (hbox); have n2_ := Aside0.mk ((by rw [hg]; exact (below_size (by repeat (first | (with_reducible first | exact HB.out | apply below_alloc | apply pw_below_drewN | apply below_drew1) | exact HB.out))) : w.heap.size ≤ gb128)); have n3_ := Aside0.mk ((by rw [hg]; exact (below_size (by repeat (first | (with_reducible first | exact HB.out | apply below_alloc | apply pw_below_drewN | apply below_drew1) | exact HB.out))) : w.heap.size ≤ gb128)); clear HB; have HB := n0_; have BK128 := n1_; have GW128 := n2_; have GE128 := n3_; clear n0_ n1_ n2_ n3_; clear hb hbox hg; have p129 : 0 ≤ (0 : Int) := (by omega); have q129 : 0 < (l0.length : Int) := of_decide_eq_true (by first | (with_reducible assumption) | assumption); obtain ⟨ad129, e129, hx129_0⟩ := Kd.at_int HR0.out 0 p129 q129; cases e129; have qi129 : (0 < l0.length) = True := eq_true (by omega); (try rw [show ((0 : Int)).toNat = 0 from rfl] at hx129_0); (try rw [Addr.add_zero'] at hx129_0); replace hx129_0 := (HB.out.cell (World.block_lt_of_cell? w _ hx129_0)).trans hx129_0; replace p129 := eq_true p129; replace q129 := eq_true q129; have p130 : 0 ≤ (0 : Int) := (by omega); have q130 : 0 < (l0.length : Int) := of_decide_eq_true (by first | (with_reducible assumption) | assumption); obtain ⟨ad130, e130, hx130_0⟩ := Kd.at_int HR0.out 0 p130 q130; obtain rfl : ad129 = ad130 := (by injection e130); have qi130 : (0 < l0.length) = True := eq_true (by omega); (try rw [show ((0 : Int)).toNat = 0 from rfl] at hx130_0); (try rw [Addr.add_zero'] at hx130_0); replace hx130_0 := (HB.out.cell (World.block_lt_of_cell? w _ hx130_0)).trans hx130_0; replace p130 := eq_true p130; replace q130 := eq_true q130; have p132 : 0 ≤ (0 : Int) := (by omega); have q132 : 0 < (l0.length : Int) := of_decide_eq_true (by first | (with_reducible assumption) | assumption); obtain ⟨ad132, e132, hx132_0⟩ := Kd.at_int HR0.out 0 p132 q132; obtain rfl : ad129 = ad132 := (by injection e132); have qi132 : (0 < l0.length) = True := eq_true (by omega); (try rw [show ((0 : Int)).toNat = 0 from rfl] at hx132_0); (try rw [Addr.add_zero'] at hx132_0); replace hx132_0 := (HB.out.cell (World.block_lt_of_cell? w _ hx132_0)).trans hx132_0; replace p132 := eq_true p132; replace q132 := eq_true q132) | ((with_reducible refine gate_callee (f := 28) rfl ?_); refine goesL_ (some 34) rfl rfl Tryd.func28 (by kernel_rfl) rfl #[.int .u8 (rd l0 0)] rfl (by (try simp only [List.map_toArray, List.map_cons, List.map_nil]); first | done | rfl | (simp only [List.length_drop, List.length_take]; rfl)) ?_; (with_reducible refine (dragomanref19_begins.calls k (rd l0 0) false _ A12.out).mono ?_); rintro e w33 ⟨rfl, hb⟩; refine ⟨_, rfl, ?_⟩; have n0_ := Aside0.mk (blk_below (g := gb128) (o := .cells #[.int .i64 0, .int .i64 0, .int .i64 0, .int .i32 0, .int .i32 0, .int .i64 0, .int .i64 0, .int .u32 0, .int .i32 0] 37 (0, 0)) (by (with_reducible repeat (first | refine blk_drewN ?_ _ | refine blk_drew ?_ | refine blk_alloc ?_ _)); exact BK128.out) hb); have n1_ := Aside0.mk (below_step (by repeat (first | (with_reducible first | exact HB.out | apply below_alloc | apply pw_below_drewN | apply below_drew1 | refine below_set ?_ GE128.out) | exact HB.out)) hb); clear BK128; clear HB; have BK128 := n0_; have HB := n1_; clear n0_ n1_; (try clear hb); (try clear hb2); (try clear hk); (try clear hi); have hcz34_0 : w33.cell? ⟨gb128, 0, none⟩ = some (.int .i64 0) := (blk_cell BK128.out 0).trans rfl; have hcz34_1 : w33.cell? ⟨gb128, 1, none⟩ = some (.int .i64 0) := (blk_cell BK128.out 1).trans rfl; have hcz34_2 : w33.cell? ⟨gb128, 2, none⟩ = some (.int .i64 0) := (blk_cell BK128.out 2).trans rfl; have hcz34_3 : w33.cell? ⟨gb128, 3, none⟩ = some (.int .i32 0) := (blk_cell BK128.out 3).trans rfl; have hcz34_4 : w33.cell? ⟨gb128, 4, none⟩ = some (.int .i32 0) := (blk_cell BK128.out 4).trans rfl; have hcz34_5 : w33.cell? ⟨gb128, 5, none⟩ = some (.int .i64 0) := (blk_cell BK128.out 5).trans rfl; have hcz34_6 : w33.cell? ⟨gb128, 6, none⟩ = some (.int .i64 0) := (blk_cell BK128.out 6).trans rfl; have hcz34_7 : w33.cell? ⟨gb128, 7, none⟩ = some (.int .u32 0) := (blk_cell BK128.out 7).trans rfl; have hcz34_8 : w33.cell? ⟨gb128, 8, none⟩ = some (.int .i32 0) := (blk_cell BK128.out 8).trans rfl; have hfz34_0 := blk_frozen BK128.out 0; have hfz34_1 := blk_frozen BK128.out 1; have hfz34_2 := blk_frozen BK128.out 2; have hfz34_3 := blk_frozen BK128.out 3; have hfz34_4 := blk_frozen BK128.out 4; have hfz34_5 := blk_frozen BK128.out 5; have hfz34_6 := blk_frozen BK128.out 6; have hfz34_7 := blk_frozen BK128.out 7; have hfz34_8 := blk_frozen BK128.out 8))
            refine bodyPost_ret (results_cell_row rfl _ _ gb128 37 #[.int .i64 10, .int .i64 1, .int .i64 0, .int .i32 0, .int .i32 0, .int .i64 0, .int .i64 0, .int .u32 0, .int .i32 0] (0, 0) _ rfl (by (with_reducible repeat (first | refine blk_drewN ?_ _ | refine blk_drew ?_ | refine blk_alloc ?_ _)); refine blk_put (cs := #[.int .i64 10, .int .i64 1, .int .i64 0, .int .i32 0, .int .i32 0, .int .i64 0, .int .i64 0, .int .u32 0, .int .i32 0]) ?_ 8 _ rfl; (with_reducible repeat (first | refine blk_drewN ?_ _ | refine blk_drew ?_ | refine blk_alloc ?_ _)); refine blk_put (cs := #[.int .i64 10, .int .i64 1, .int .i64 0, .int .i32 0, .int .i32 0, .int .i64 0, .int .i64 0, .int .u32 0, .int .i32 0]) ?_ 7 _ rfl; (with_reducible repeat (first | refine blk_drewN ?_ _ | refine blk_drew ?_ | refine blk_alloc ?_ _)); refine blk_put (cs := #[.int .i64 10, .int .i64 1, .int .i64 0, .int .i32 0, .int .i32 0, .int .i64 0, .int .i64 0, .int .u32 0, .int .i32 0]) ?_ 6 _ rfl; (with_reducible repeat (first | refine blk_drewN ?_ _ | refine blk_drew ?_ | refine blk_alloc ?_ _)); refine blk_put (cs := #[.int .i64 10, .int .i64 1, .int .i64 0, .int .i32 0, .int .i32 0, .int .i64 0, .int .i64 0, .int .u32 0, .int .i32 0]) ?_ 5 _ rfl; (with_reducible repeat (first | refine blk_drewN ?_ _ | refine blk_drew ?_ | refine blk_alloc ?_ _)); refine blk_put (cs := #[.int .i64 10, .int .i64 1, .int .i64 0, .int .i32 0, .int .i32 0, .int .i64 0, .int .i64 0, .int .u32 0, .int .i32 0]) ?_ 4 _ rfl; (with_reducible repeat (first | refine blk_drewN ?_ _ | refine blk_drew ?_ | refine blk_alloc ?_ _)); refine blk_put (cs := #[.int .i64 10, .int .i64 1, .int .i64 0, .int .i32 0, .int .i32 0, .int .i64 0, .int .i64 0, .int .u32 0, .int .i32 0]) ?_ 3 _ rfl; (with_reducible repeat (first | refine blk_drewN ?_ _ | refine blk_drew ?_ | refine blk_alloc ?_ _)); refine blk_put (cs := #[.int .i64 10, .int .i64 1, .int .i64 0, .int .i32 0, .int .i32 0, .int .i64 0, .int .i64 0, .int .u32 0, .int .i32 0]) ?_ 2 _ rfl; (with_reducible repeat (first | refine blk_drewN ?_ _ | refine blk_drew ?_ | refine blk_alloc ?_ _)); refine blk_put (cs := #[.int .i64 10, .int .i64 0, .int .i64 0, .int .i32 0, .int .i32 0, .int .i64 0, .int .i64 0, .int .u32 0, .int .i32 0]) ?_ 1 _ rfl; (with_reducible repeat (first | refine blk_drewN ?_ _ | refine blk_drew ?_ | refine blk_alloc ?_ _)); refine blk_put (cs := #[.int .i64 0, .int .i64 0, .int .i64 0, .int .i32 0, .int .i32 0, .int .i64 0, .int .i64 0, .int .u32 0, .int .i32 0]) ?_ 0 _ rfl; (with_reducible repeat (first | refine blk_drewN ?_ _ | refine blk_drew ?_ | refine blk_alloc ?_ _)); exact BK128.out) Tryd.underlying37 rfl (by kernel_rfl)) rfl ?_
            exact ⟨by first | rfl | (simp [errW_none, errW_some] <;> rfl) | (simp [*, errW_none, errW_some] <;> rfl), by repeat (first | (with_reducible first | exact HB.out | apply below_alloc | apply pw_below_drewN | apply below_drew1 | refine below_set ?_ GE128.out) | exact HB.out)⟩
    · rw [if_neg c5] at H
      exact absurd H (by simp)

-- NOT PRINTED: function 5 (dragomanlaw19_JohabGets)

end Go.Proofs.YtdihghjjinlaaaaDoor.PJohabGets
