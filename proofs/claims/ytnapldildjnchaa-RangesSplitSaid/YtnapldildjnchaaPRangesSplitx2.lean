/- RangesSplit: what the functions answer, and their walks; what is not printed is given by YtnapldildjnchaaGRangesSplit. Written by a program of ours over the print. -/
import Derived.Test.YtnapldildjnchaaPRangesSplitx0
import Derived.Test.YtnapldildjnchaaPRangesSplitx1
import Derived.Test.YtnapldildjnchaaGRangesSplit
namespace Go.Proofs.Ytnapldildjnchaa.PRangesSplit
open Go.RowKit Go.Proofs.YtnapldildjnchaaW.PrintWords Go.Proofs.YtnapldildjnchaaW.PrintLast Go.Proofs.YtnapldildjnchaaW.PrintMore
attribute [local go_sem] max2_int min2_int max_two min_two max_three min_three max_four min_four   -- for this text's walks alone
set_option linter.unusedVariables false
set_option linter.unusedSimpArgs false

/-! ### ranges_Check: function 13 -/
def ranges_Check.l0 : Nat → Int → Int → List (S44) → Int → Int → Option (Int)
  | 0, _, _, _, _, _ => none
  | k + 1, x3, x4, x10, x11, x12 => if x12 < x11 then (if 0 ≤ x12 then (if x12 < (x10.length : Int) then ((ranges_right.f k ((rd_T44 x10 x12).f0) ((rd_T44 x10 x12).f1) ((rd_T44 x10 x12).f2)).bind fun t123 => (if t123 = true then (if ((rd_T44 x10 x12).f0) ≤ x4 then (some 3) else (ranges_Check.l0 k (wrap64 (x3 + (wrap64 ((wrap64 (((rd_T44 x10 x12).f1) - ((rd_T44 x10 x12).f0))) + 1)))) ((rd_T44 x10 x12).f1) x10 x11 (wrap64 (x12 + 1)))) else (some 3))) else (none)) else (none)) else (if x3 > 65536 then (some 8) else (some 0))
def ranges_Check.f (k : Nat) (l0 : List (S44)) : Option (Int) := if (l0.length : Int) > 65536 then (some 8) else (ranges_Check.l0 k 0 (-1) l0 (l0.length : Int) 0)
theorem ranges_Check.mono_l : ∀ k, (∀ y0 y1 y2 y3 y4, LeO (ranges_Check.l0 k y0 y1 y2 y3 y4) (ranges_Check.l0 (k + 1) y0 y1 y2 y3 y4))
  | 0 => fun _ _ _ _ _ r h => by simp [ranges_Check.l0] at h
  | k + 1 => by
    have ih0 := ranges_Check.mono_l k
    · intro y0 y1 y2 y3 y4
      unfold ranges_Check.l0
      repeat' first
      | (with_reducible exact ih0 _ _ _ _ _)
      | (with_reducible exact ranges_right.mono _ _ _ _)
      | (with_reducible exact LeO.refl _)
      | (with_reducible exact LeO.none _)
      | (with_reducible refine LeO.ite ?_ ?_)
      | (with_reducible refine LeO.bind ?_ (fun _ => ?_))
      | exact ih0 _ _ _ _ _
      | exact ranges_right.mono _ _ _ _
      | exact LeO.none _
      | refine LeO.ite ?_ ?_
      | refine LeO.bind ?_ (fun _ => ?_)
theorem ranges_Check.mono : ∀ a0 k, LeO (ranges_Check.f k a0) (ranges_Check.f (k + 1) a0) := by
  intro a0 k
  have ih0 := ranges_Check.mono_l k
  unfold ranges_Check.f
  repeat' first
      | (with_reducible exact ih0 _ _ _ _ _)
      | (with_reducible exact ranges_right.mono _ _ _ _)
      | (with_reducible exact LeO.refl _)
      | (with_reducible exact LeO.none _)
      | (with_reducible refine LeO.ite ?_ ?_)
      | (with_reducible refine LeO.bind ?_ (fun _ => ?_))
      | exact ih0 _ _ _ _ _
      | exact ranges_right.mono _ _ _ _
      | exact LeO.none _
      | refine LeO.ite ?_ ?_
      | refine LeO.bind ?_ (fun _ => ?_)
set_option maxHeartbeats 8000000 in
set_option maxRecDepth 100000 in
theorem ranges_Check.calls (k : Nat) (A0 : Option Addr) (c0 : Nat) (l0 : List (S44)) (r : Int) (w : World) (hr0 : Kd.C k44 w A0 l0.length l0) (hc0 : l0.length ≤ c0) (h : ranges_Check.f k l0 = some r) :
    Calls Try.prog 13 #[.slice A0 l0.length c0] w fun e w' => e = .returned (.int .i64 r) ∧ Below w.heap.size w w' := by
  have hu44 := Try.underlying44
  have HR0 := Aside0.mk hr0
  have HC0 := Aside0.mk hc0
  clear hr0 hc0
  have HB := Aside0.mk (Below.refl w.heap.size w)
  have H : (if (l0.length : Int) > 65536 then (some 8) else (ranges_Check.l0 k 0 (-1) l0 (l0.length : Int) 0)) = some r := h
  clear h
  by_cases c2 : (l0.length : Int) > 65536
  · rw [if_pos c2] at H
    have c2b0 : decide (65536 < (l0.length : Int)) = true := decide_eq_true c2
    have c2b1 : decide (65536 < l0.length) = true := decide_eq_true (by omega)
    clear c2
    obtain rfl := Option.some.inj H
    go_enter Try.func13, Try.ntmps13
    go_wp2
    go_ret
    exact ⟨by first | rfl | (simp [errW_none, errW_some] <;> rfl) | (simp [*, errW_none, errW_some] <;> rfl), by repeat (first | (with_reducible first | exact HB.out | apply below_alloc | apply pw_below_drewN | apply below_drew1) | exact HB.out)⟩
  · rw [if_neg c2] at H
    have c2b0 : decide (65536 < (l0.length : Int)) = false := decide_eq_false c2
    have c2b1 : decide (65536 < l0.length) = false := decide_eq_false (by omega)
    clear c2
    have H' := Aside0.mk H
    clear H
    go_enter Try.func13, Try.ntmps13
    go_wp2
    go_loopg [3, 4, 12] k (fun kq v3 v4 v12 w' => ∃ (x3_1 : Int) (x4_1 : Int) (x12_1 : Int), v3 = .int .i64 x3_1 ∧ v4 = .int .i64 x4_1 ∧ v12 = .int .i64 x12_1 ∧ Aside0 (ranges_Check.l0 kq x3_1 x4_1 l0 (l0.length : Int) x12_1 = some r) ∧ Aside0 (kq ≤ k) ∧ Aside0 (Below w.heap.size w w'))
    case atStart => exact ⟨(0), ((-1)), (0), (by first | rfl | (simp; done) | (simp [*]; done)), (by first | rfl | (simp; done) | (simp [*]; done)), (by first | rfl | (simp; done) | (simp [*]; done)), H', ⟨Nat.le_refl _⟩, ⟨by repeat (first | (with_reducible first | exact HB.out | apply below_alloc | apply pw_below_drewN | apply below_drew1) | exact HB.out)⟩⟩
    case round =>
      clear H'
      try clear c1
      try clear c2
      try clear c2b0
      try clear c2b1
      try clear p2
      obtain ⟨x3_1, x4_1, x12_1, rfl, rfl, rfl, HA, HK1, HB⟩ := hrel
      cases gk with
      | zero => exact absurd HA.out (by simp [ranges_Check.l0])
      | succ k1 =>
        have H := HA.out
        clear HA
        simp only [ranges_Check.l0] at H
        by_cases c3 : x12_1 < (l0.length : Int)
        · rw [if_pos c3] at H
          have c3b0 : decide (x12_1 < (l0.length : Int)) = true := decide_eq_true c3
          clear c3
          by_cases c4 : 0 ≤ x12_1
          · rw [if_pos c4] at H
            have c4b0 : decide (0 ≤ x12_1) = true := decide_eq_true c4
            clear c4
            by_cases c5 : x12_1 < (l0.length : Int)
            · rw [if_pos c5] at H
              have c5b0 : decide (x12_1 < (l0.length : Int)) = true := decide_eq_true c5
              clear c5
              replace H := Option.bind_eq_some_iff.mp H
              obtain ⟨t123, A60, H⟩ := H
              replace H : (if t123 = true then (if ((rd_T44 l0 x12_1).f0) ≤ x4_1 then (some 3) else (ranges_Check.l0 k1 (wrap64 (x3_1 + (wrap64 ((wrap64 (((rd_T44 l0 x12_1).f1) - ((rd_T44 l0 x12_1).f0))) + 1)))) ((rd_T44 l0 x12_1).f1) l0 (l0.length : Int) (wrap64 (x12_1 + 1)))) else (some 3)) = some r := H
              have A6 := Aside0.mk A60
              clear A60
              by_cases c7 : t123 = true
              · subst c7
                have H1 : (if ((rd_T44 l0 x12_1).f0) ≤ x4_1 then (some 3) else (ranges_Check.l0 k1 (wrap64 (x3_1 + (wrap64 ((wrap64 (((rd_T44 l0 x12_1).f1) - ((rd_T44 l0 x12_1).f0))) + 1)))) ((rd_T44 l0 x12_1).f1) l0 (l0.length : Int) (wrap64 (x12_1 + 1)))) = some r := by rw [if_pos rfl] at H; exact H
                clear H
                have H := H1
                clear H1
                by_cases c8 : ((rd_T44 l0 x12_1).f0) ≤ x4_1
                · rw [if_pos c8] at H
                  have c8b0 : decide (((rd_T44 l0 x12_1).f0) ≤ x4_1) = true := decide_eq_true c8
                  clear c8
                  obtain rfl := Option.some.inj H
                  have p121 : 0 ≤ (x12_1 : Int) := of_decide_eq_true (by first | (with_reducible assumption) | assumption)
                  have q121 : x12_1 < (l0.length : Int) := of_decide_eq_true (by first | (with_reducible assumption) | assumption)
                  obtain ⟨ad121, e121, hx121_0, hx121_1, hx121_2⟩ := at_T44 HR0.out x12_1 p121 q121
                  cases e121
                  replace hx121_0 := (HB.out.cell (World.block_lt_of_cell? w _ hx121_0)).trans hx121_0
                  replace hx121_1 := (HB.out.cell (World.block_lt_of_cell? w _ hx121_1)).trans hx121_1
                  replace hx121_2 := (HB.out.cell (World.block_lt_of_cell? w _ hx121_2)).trans hx121_2
                  replace p121 := eq_true p121
                  replace q121 := eq_true q121
                  go_wp2_with (first | ((with_reducible refine gate_dst (N := 6) rfl ?_); refine box_event ?hg (N := 6) ?hd (cs := #[.int .i64 0, .int .i64 0, .int .i32 0]) (t := 44) ?hr ?_; (case hd => rfl); (case hg => rfl); (case hr => first | (go_simp; done) | (go_simp; rfl)); intro gb122 hg w9 hbox hb; have n0_ := Aside0.mk (below_step (by repeat (first | (with_reducible first | exact HB.out | apply below_alloc | apply pw_below_drewN | apply below_drew1) | exact HB.out)) hb); have n1_ := Aside0.mk (hbox); have n2_ := Aside0.mk ((by rw [hg]; exact (below_size (by repeat (first | (with_reducible first | exact HB.out | apply below_alloc | apply pw_below_drewN | apply below_drew1) | exact HB.out))) : w.heap.size ≤ gb122)); have n3_ := Aside0.mk ((by rw [hg]; exact (below_size (by repeat (first | (with_reducible first | exact HB.out | apply below_alloc | apply pw_below_drewN | apply below_drew1) | exact HB.out))) : w.heap.size ≤ gb122)); clear HB; have HB := n0_; have BK122 := n1_; have GW122 := n2_; have GE122 := n3_; clear n0_ n1_ n2_ n3_; clear hb hbox hg; have hcz10_0 : w9.cell? ⟨gb122, 0, none⟩ = some (.int .i64 0) := (blk_cell BK122.out 0).trans rfl; have hcz10_1 : w9.cell? ⟨gb122, 1, none⟩ = some (.int .i64 0) := (blk_cell BK122.out 1).trans rfl; have hcz10_2 : w9.cell? ⟨gb122, 2, none⟩ = some (.int .i32 0) := (blk_cell BK122.out 2).trans rfl; have hfz10_0 := blk_frozen BK122.out 0; have hfz10_1 := blk_frozen BK122.out 1; have hfz10_2 := blk_frozen BK122.out 2) | ((with_reducible refine gate_callee (f := 24) rfl ?_); refine goesL_ (some 17) rfl rfl Try.func24 (by kernel_rfl) rfl #[.agg #[.int .i64 ((rd_T44 l0 x12_1).f0), .int .i64 ((rd_T44 l0 x12_1).f1), .int .i32 ((rd_T44 l0 x12_1).f2)]] rfl (by (try simp only [List.map_toArray, List.map_cons, List.map_nil]); first | done | rfl | (simp only [List.length_drop, List.length_take]; rfl)) ?_; (with_reducible refine (ranges_right.calls k1 ((rd_T44 l0 x12_1).f0) ((rd_T44 l0 x12_1).f1) ((rd_T44 l0 x12_1).f2) true _ A6.out).mono ?_); rintro e w11 ⟨rfl, hb⟩; refine ⟨_, rfl, ?_⟩; have n0_ := Aside0.mk (blk_below (g := gb122) (o := .cells #[.int .i64 ((rd_T44 l0 x12_1).f0), .int .i64 ((rd_T44 l0 x12_1).f1), .int .i32 ((rd_T44 l0 x12_1).f2)] 44 (0, 0)) (by (with_reducible repeat (first | refine blk_drewN ?_ _ | refine blk_drew ?_ | refine blk_alloc ?_ _)); refine blk_put (cs := #[.int .i64 ((rd_T44 l0 x12_1).f0), .int .i64 ((rd_T44 l0 x12_1).f1), .int .i32 0]) ?_ 2 _ rfl; (with_reducible repeat (first | refine blk_drewN ?_ _ | refine blk_drew ?_ | refine blk_alloc ?_ _)); refine blk_put (cs := #[.int .i64 ((rd_T44 l0 x12_1).f0), .int .i64 0, .int .i32 0]) ?_ 1 _ rfl; (with_reducible repeat (first | refine blk_drewN ?_ _ | refine blk_drew ?_ | refine blk_alloc ?_ _)); refine blk_put (cs := #[.int .i64 0, .int .i64 0, .int .i32 0]) ?_ 0 _ rfl; (with_reducible repeat (first | refine blk_drewN ?_ _ | refine blk_drew ?_ | refine blk_alloc ?_ _)); exact BK122.out) hb); have n1_ := Aside0.mk (below_step (by repeat (first | (with_reducible first | exact HB.out | apply below_alloc | apply pw_below_drewN | apply below_drew1 | refine below_set ?_ GE122.out) | exact HB.out)) hb); clear BK122; clear HB; have BK122 := n0_; have HB := n1_; clear n0_ n1_; (try clear hb); (try clear hb2); (try clear hk); (try clear hi); have hcz12_0 : w11.cell? ⟨gb122, 0, none⟩ = some (.int .i64 ((rd_T44 l0 x12_1).f0)) := (blk_cell BK122.out 0).trans rfl; have hcz12_1 : w11.cell? ⟨gb122, 1, none⟩ = some (.int .i64 ((rd_T44 l0 x12_1).f1)) := (blk_cell BK122.out 1).trans rfl; have hcz12_2 : w11.cell? ⟨gb122, 2, none⟩ = some (.int .i32 ((rd_T44 l0 x12_1).f2)) := (blk_cell BK122.out 2).trans rfl; have hfz12_0 := blk_frozen BK122.out 0; have hfz12_1 := blk_frozen BK122.out 1; have hfz12_2 := blk_frozen BK122.out 2))
                  go_ret
                  exact ⟨by first | rfl | (simp [errW_none, errW_some] <;> rfl) | (simp [*, errW_none, errW_some] <;> rfl), by repeat (first | (with_reducible first | exact HB.out | apply below_alloc | apply pw_below_drewN | apply below_drew1 | refine below_set ?_ GE122.out) | exact HB.out)⟩
                · rw [if_neg c8] at H
                  have c8b0 : decide (((rd_T44 l0 x12_1).f0) ≤ x4_1) = false := decide_eq_false c8
                  clear c8
                  have H' := Aside0.mk H
                  clear H
                  have p121 : 0 ≤ (x12_1 : Int) := of_decide_eq_true (by first | (with_reducible assumption) | assumption)
                  have q121 : x12_1 < (l0.length : Int) := of_decide_eq_true (by first | (with_reducible assumption) | assumption)
                  obtain ⟨ad121, e121, hx121_0, hx121_1, hx121_2⟩ := at_T44 HR0.out x12_1 p121 q121
                  cases e121
                  replace hx121_0 := (HB.out.cell (World.block_lt_of_cell? w _ hx121_0)).trans hx121_0
                  replace hx121_1 := (HB.out.cell (World.block_lt_of_cell? w _ hx121_1)).trans hx121_1
                  replace hx121_2 := (HB.out.cell (World.block_lt_of_cell? w _ hx121_2)).trans hx121_2
                  replace p121 := eq_true p121
                  replace q121 := eq_true q121
                  go_wp2_with (first | ((with_reducible refine gate_dst (N := 6) rfl ?_); refine box_event ?hg (N := 6) ?hd (cs := #[.int .i64 0, .int .i64 0, .int .i32 0]) (t := 44) ?hr ?_; (case hd => rfl); (case hg => rfl); (case hr => first | (go_simp; done) | (go_simp; rfl)); intro gb122 hg w13 hbox hb; have n0_ := Aside0.mk (below_step (by repeat (first | (with_reducible first | exact HB.out | apply below_alloc | apply pw_below_drewN | apply below_drew1) | exact HB.out)) hb); have n1_ := Aside0.mk (hbox); have n2_ := Aside0.mk ((by rw [hg]; exact (below_size (by repeat (first | (with_reducible first | exact HB.out | apply below_alloc | apply pw_below_drewN | apply below_drew1) | exact HB.out))) : w.heap.size ≤ gb122)); have n3_ := Aside0.mk ((by rw [hg]; exact (below_size (by repeat (first | (with_reducible first | exact HB.out | apply below_alloc | apply pw_below_drewN | apply below_drew1) | exact HB.out))) : w.heap.size ≤ gb122)); clear HB; have HB := n0_; have BK122 := n1_; have GW122 := n2_; have GE122 := n3_; clear n0_ n1_ n2_ n3_; clear hb hbox hg; have hcz14_0 : w13.cell? ⟨gb122, 0, none⟩ = some (.int .i64 0) := (blk_cell BK122.out 0).trans rfl; have hcz14_1 : w13.cell? ⟨gb122, 1, none⟩ = some (.int .i64 0) := (blk_cell BK122.out 1).trans rfl; have hcz14_2 : w13.cell? ⟨gb122, 2, none⟩ = some (.int .i32 0) := (blk_cell BK122.out 2).trans rfl; have hfz14_0 := blk_frozen BK122.out 0; have hfz14_1 := blk_frozen BK122.out 1; have hfz14_2 := blk_frozen BK122.out 2) | ((with_reducible refine gate_callee (f := 24) rfl ?_); refine goesL_ (some 17) rfl rfl Try.func24 (by kernel_rfl) rfl #[.agg #[.int .i64 ((rd_T44 l0 x12_1).f0), .int .i64 ((rd_T44 l0 x12_1).f1), .int .i32 ((rd_T44 l0 x12_1).f2)]] rfl (by (try simp only [List.map_toArray, List.map_cons, List.map_nil]); first | done | rfl | (simp only [List.length_drop, List.length_take]; rfl)) ?_; (with_reducible refine (ranges_right.calls k1 ((rd_T44 l0 x12_1).f0) ((rd_T44 l0 x12_1).f1) ((rd_T44 l0 x12_1).f2) true _ A6.out).mono ?_); rintro e w15 ⟨rfl, hb⟩; refine ⟨_, rfl, ?_⟩; have n0_ := Aside0.mk (blk_below (g := gb122) (o := .cells #[.int .i64 ((rd_T44 l0 x12_1).f0), .int .i64 ((rd_T44 l0 x12_1).f1), .int .i32 ((rd_T44 l0 x12_1).f2)] 44 (0, 0)) (by (with_reducible repeat (first | refine blk_drewN ?_ _ | refine blk_drew ?_ | refine blk_alloc ?_ _)); refine blk_put (cs := #[.int .i64 ((rd_T44 l0 x12_1).f0), .int .i64 ((rd_T44 l0 x12_1).f1), .int .i32 0]) ?_ 2 _ rfl; (with_reducible repeat (first | refine blk_drewN ?_ _ | refine blk_drew ?_ | refine blk_alloc ?_ _)); refine blk_put (cs := #[.int .i64 ((rd_T44 l0 x12_1).f0), .int .i64 0, .int .i32 0]) ?_ 1 _ rfl; (with_reducible repeat (first | refine blk_drewN ?_ _ | refine blk_drew ?_ | refine blk_alloc ?_ _)); refine blk_put (cs := #[.int .i64 0, .int .i64 0, .int .i32 0]) ?_ 0 _ rfl; (with_reducible repeat (first | refine blk_drewN ?_ _ | refine blk_drew ?_ | refine blk_alloc ?_ _)); exact BK122.out) hb); have n1_ := Aside0.mk (below_step (by repeat (first | (with_reducible first | exact HB.out | apply below_alloc | apply pw_below_drewN | apply below_drew1 | refine below_set ?_ GE122.out) | exact HB.out)) hb); clear BK122; clear HB; have BK122 := n0_; have HB := n1_; clear n0_ n1_; (try clear hb); (try clear hb2); (try clear hk); (try clear hi); have hcz16_0 : w15.cell? ⟨gb122, 0, none⟩ = some (.int .i64 ((rd_T44 l0 x12_1).f0)) := (blk_cell BK122.out 0).trans rfl; have hcz16_1 : w15.cell? ⟨gb122, 1, none⟩ = some (.int .i64 ((rd_T44 l0 x12_1).f1)) := (blk_cell BK122.out 1).trans rfl; have hcz16_2 : w15.cell? ⟨gb122, 2, none⟩ = some (.int .i32 ((rd_T44 l0 x12_1).f2)) := (blk_cell BK122.out 2).trans rfl; have hfz16_0 := blk_frozen BK122.out 0; have hfz16_1 := blk_frozen BK122.out 1; have hfz16_2 := blk_frozen BK122.out 2))
                  go_roundg k1
                  case measure => have := HK1.out; omega
                  case rel => exact ⟨(wrap64 (x3_1 + (wrap64 ((wrap64 (((rd_T44 l0 x12_1).f1) - ((rd_T44 l0 x12_1).f0))) + 1)))), ((rd_T44 l0 x12_1).f1), (wrap64 (x12_1 + 1)), (by first | rfl | (simp; done) | (simp [*]; done)), (by first | rfl | (simp; done) | (simp [*]; done)), (by first | rfl | (simp; done) | (simp [*]; done)), H', ⟨by have := HK1.out; omega⟩, ⟨by repeat (first | (with_reducible first | exact HB.out | apply below_alloc | apply pw_below_drewN | apply below_drew1 | refine below_set ?_ GE122.out) | exact HB.out)⟩⟩
              · replace c7 := Bool.eq_false_iff.mpr c7
                subst c7
                have H1 : (some 3) = some r := by rw [if_neg (show ¬ (false = true) by decide)] at H; exact H
                clear H
                have H := H1
                clear H1
                obtain rfl := Option.some.inj H
                have p121 : 0 ≤ (x12_1 : Int) := of_decide_eq_true (by first | (with_reducible assumption) | assumption)
                have q121 : x12_1 < (l0.length : Int) := of_decide_eq_true (by first | (with_reducible assumption) | assumption)
                obtain ⟨ad121, e121, hx121_0, hx121_1, hx121_2⟩ := at_T44 HR0.out x12_1 p121 q121
                cases e121
                replace hx121_0 := (HB.out.cell (World.block_lt_of_cell? w _ hx121_0)).trans hx121_0
                replace hx121_1 := (HB.out.cell (World.block_lt_of_cell? w _ hx121_1)).trans hx121_1
                replace hx121_2 := (HB.out.cell (World.block_lt_of_cell? w _ hx121_2)).trans hx121_2
                replace p121 := eq_true p121
                replace q121 := eq_true q121
                go_wp2_with (first | ((with_reducible refine gate_dst (N := 6) rfl ?_); refine box_event ?hg (N := 6) ?hd (cs := #[.int .i64 0, .int .i64 0, .int .i32 0]) (t := 44) ?hr ?_; (case hd => rfl); (case hg => rfl); (case hr => first | (go_simp; done) | (go_simp; rfl)); intro gb122 hg w17 hbox hb; have n0_ := Aside0.mk (below_step (by repeat (first | (with_reducible first | exact HB.out | apply below_alloc | apply pw_below_drewN | apply below_drew1) | exact HB.out)) hb); have n1_ := Aside0.mk (hbox); have n2_ := Aside0.mk ((by rw [hg]; exact (below_size (by repeat (first | (with_reducible first | exact HB.out | apply below_alloc | apply pw_below_drewN | apply below_drew1) | exact HB.out))) : w.heap.size ≤ gb122)); have n3_ := Aside0.mk ((by rw [hg]; exact (below_size (by repeat (first | (with_reducible first | exact HB.out | apply below_alloc | apply pw_below_drewN | apply below_drew1) | exact HB.out))) : w.heap.size ≤ gb122)); clear HB; have HB := n0_; have BK122 := n1_; have GW122 := n2_; have GE122 := n3_; clear n0_ n1_ n2_ n3_; clear hb hbox hg; have hcz18_0 : w17.cell? ⟨gb122, 0, none⟩ = some (.int .i64 0) := (blk_cell BK122.out 0).trans rfl; have hcz18_1 : w17.cell? ⟨gb122, 1, none⟩ = some (.int .i64 0) := (blk_cell BK122.out 1).trans rfl; have hcz18_2 : w17.cell? ⟨gb122, 2, none⟩ = some (.int .i32 0) := (blk_cell BK122.out 2).trans rfl; have hfz18_0 := blk_frozen BK122.out 0; have hfz18_1 := blk_frozen BK122.out 1; have hfz18_2 := blk_frozen BK122.out 2) | ((with_reducible refine gate_callee (f := 24) rfl ?_); refine goesL_ (some 17) rfl rfl Try.func24 (by kernel_rfl) rfl #[.agg #[.int .i64 ((rd_T44 l0 x12_1).f0), .int .i64 ((rd_T44 l0 x12_1).f1), .int .i32 ((rd_T44 l0 x12_1).f2)]] rfl (by (try simp only [List.map_toArray, List.map_cons, List.map_nil]); first | done | rfl | (simp only [List.length_drop, List.length_take]; rfl)) ?_; (with_reducible refine (ranges_right.calls k1 ((rd_T44 l0 x12_1).f0) ((rd_T44 l0 x12_1).f1) ((rd_T44 l0 x12_1).f2) false _ A6.out).mono ?_); rintro e w19 ⟨rfl, hb⟩; refine ⟨_, rfl, ?_⟩; have n0_ := Aside0.mk (blk_below (g := gb122) (o := .cells #[.int .i64 ((rd_T44 l0 x12_1).f0), .int .i64 ((rd_T44 l0 x12_1).f1), .int .i32 ((rd_T44 l0 x12_1).f2)] 44 (0, 0)) (by (with_reducible repeat (first | refine blk_drewN ?_ _ | refine blk_drew ?_ | refine blk_alloc ?_ _)); refine blk_put (cs := #[.int .i64 ((rd_T44 l0 x12_1).f0), .int .i64 ((rd_T44 l0 x12_1).f1), .int .i32 0]) ?_ 2 _ rfl; (with_reducible repeat (first | refine blk_drewN ?_ _ | refine blk_drew ?_ | refine blk_alloc ?_ _)); refine blk_put (cs := #[.int .i64 ((rd_T44 l0 x12_1).f0), .int .i64 0, .int .i32 0]) ?_ 1 _ rfl; (with_reducible repeat (first | refine blk_drewN ?_ _ | refine blk_drew ?_ | refine blk_alloc ?_ _)); refine blk_put (cs := #[.int .i64 0, .int .i64 0, .int .i32 0]) ?_ 0 _ rfl; (with_reducible repeat (first | refine blk_drewN ?_ _ | refine blk_drew ?_ | refine blk_alloc ?_ _)); exact BK122.out) hb); have n1_ := Aside0.mk (below_step (by repeat (first | (with_reducible first | exact HB.out | apply below_alloc | apply pw_below_drewN | apply below_drew1 | refine below_set ?_ GE122.out) | exact HB.out)) hb); clear BK122; clear HB; have BK122 := n0_; have HB := n1_; clear n0_ n1_; (try clear hb); (try clear hb2); (try clear hk); (try clear hi)))
                go_ret
                exact ⟨by first | rfl | (simp [errW_none, errW_some] <;> rfl) | (simp [*, errW_none, errW_some] <;> rfl), by repeat (first | (with_reducible first | exact HB.out | apply below_alloc | apply pw_below_drewN | apply below_drew1 | refine below_set ?_ GE122.out) | exact HB.out)⟩
            · rw [if_neg c5] at H
              exact absurd H (by simp)
          · rw [if_neg c4] at H
            exact absurd H (by simp)
        · rw [if_neg c3] at H
          have c3b0 : decide (x12_1 < (l0.length : Int)) = false := decide_eq_false c3
          clear c3
          by_cases c20 : x3_1 > 65536
          · rw [if_pos c20] at H
            have c20b0 : decide (65536 < x3_1) = true := decide_eq_true c20
            clear c20
            obtain rfl := Option.some.inj H
            go_wp2
            go_ret
            exact ⟨by first | rfl | (simp [errW_none, errW_some] <;> rfl) | (simp [*, errW_none, errW_some] <;> rfl), by repeat (first | (with_reducible first | exact HB.out | apply below_alloc | apply pw_below_drewN | apply below_drew1) | exact HB.out)⟩
          · rw [if_neg c20] at H
            have c20b0 : decide (65536 < x3_1) = false := decide_eq_false c20
            clear c20
            obtain rfl := Option.some.inj H
            go_wp2
            go_ret
            exact ⟨by first | rfl | (simp [errW_none, errW_some] <;> rfl) | (simp [*, errW_none, errW_some] <;> rfl), by repeat (first | (with_reducible first | exact HB.out | apply below_alloc | apply pw_below_drewN | apply below_drew1) | exact HB.out)⟩

/-! ### ranges_Pairs: function 15 -/
mutual
def ranges_Pairs.l0 : Nat → List (S41) → List (S44) → Int → Int → Option ((List (S41)))
  | 0, _, _, _, _ => none
  | k + 1, x3, x10, x11, x12 => if x12 < x11 then (if 0 ≤ x12 then (if x12 < (x10.length : Int) then (ranges_Pairs.l1 k x3 x10 x11 x12 (wrap64 ((wrap64 (((rd_T44 x10 x12).f1) - ((rd_T44 x10 x12).f0))) + 1)) 0 ((rd_T44 x10 x12).f0) ((rd_T44 x10 x12).f1) ((rd_T44 x10 x12).f2)) else (none)) else (none)) else (some x3)
def ranges_Pairs.l1 : Nat → List (S41) → List (S44) → Int → Int → Int → Int → Int → Int → Int → Option ((List (S41)))
  | 0, _, _, _, _, _, _, _, _, _ => none
  | k + 1, x3, x10, x11, x12, x21, x22, x127000, x127001, x127002 => if x22 < x21 then (if x3.length < 8796093022208 then (ranges_Pairs.l1 k (x3 ++ [(⟨wrap64 (x127000 + x22), wrap32 (x127002 + (wrap32 (x22)))⟩ : S41)]) x10 x11 x12 x21 (wrap64 (x22 + 1)) x127000 x127001 x127002) else (none)) else (ranges_Pairs.l0 k x3 x10 x11 (wrap64 (x12 + 1)))
end
def ranges_Pairs.f (k : Nat) (l0 : List (S44)) : Option ((List (S41))) := (ranges_Check.f k l0).bind fun t124 => (if t124 = 0 then (ranges_Pairs.l0 k ([] : List (S41)) l0 (l0.length : Int) 0) else (some ([] : List (S41))))
theorem ranges_Pairs.mono_l : ∀ k, (∀ y0 y1 y2 y3, LeO (ranges_Pairs.l0 k y0 y1 y2 y3) (ranges_Pairs.l0 (k + 1) y0 y1 y2 y3)) ∧ (∀ y0 y1 y2 y3 y4 y5 y6 y7 y8, LeO (ranges_Pairs.l1 k y0 y1 y2 y3 y4 y5 y6 y7 y8) (ranges_Pairs.l1 (k + 1) y0 y1 y2 y3 y4 y5 y6 y7 y8))
  | 0 => ⟨fun _ _ _ _ r h => by simp [ranges_Pairs.l0] at h, fun _ _ _ _ _ _ _ _ _ r h => by simp [ranges_Pairs.l1] at h⟩
  | k + 1 => by
    obtain ⟨ih0, ih1⟩ := ranges_Pairs.mono_l k
    refine ⟨?_, ?_⟩
    · intro y0 y1 y2 y3
      unfold ranges_Pairs.l0
      repeat' first
      | (with_reducible exact ih0 _ _ _ _)
      | (with_reducible exact ih1 _ _ _ _ _ _ _ _ _)
      | (with_reducible exact ranges_Check.mono _ _)
      | (with_reducible exact LeO.refl _)
      | (with_reducible exact LeO.none _)
      | (with_reducible refine LeO.ite ?_ ?_)
      | (with_reducible refine LeO.bind ?_ (fun _ => ?_))
      | exact ih0 _ _ _ _
      | exact ih1 _ _ _ _ _ _ _ _ _
      | exact ranges_Check.mono _ _
      | exact LeO.none _
      | refine LeO.ite ?_ ?_
      | refine LeO.bind ?_ (fun _ => ?_)
    · intro y0 y1 y2 y3 y4 y5 y6 y7 y8
      unfold ranges_Pairs.l1
      repeat' first
      | (with_reducible exact ih0 _ _ _ _)
      | (with_reducible exact ih1 _ _ _ _ _ _ _ _ _)
      | (with_reducible exact ranges_Check.mono _ _)
      | (with_reducible exact LeO.refl _)
      | (with_reducible exact LeO.none _)
      | (with_reducible refine LeO.ite ?_ ?_)
      | (with_reducible refine LeO.bind ?_ (fun _ => ?_))
      | exact ih0 _ _ _ _
      | exact ih1 _ _ _ _ _ _ _ _ _
      | exact ranges_Check.mono _ _
      | exact LeO.none _
      | refine LeO.ite ?_ ?_
      | refine LeO.bind ?_ (fun _ => ?_)
theorem ranges_Pairs.mono : ∀ a0 k, LeO (ranges_Pairs.f k a0) (ranges_Pairs.f (k + 1) a0) := by
  intro a0 k
  obtain ⟨ih0, ih1⟩ := ranges_Pairs.mono_l k
  unfold ranges_Pairs.f
  repeat' first
      | (with_reducible exact ih0 _ _ _ _)
      | (with_reducible exact ih1 _ _ _ _ _ _ _ _ _)
      | (with_reducible exact ranges_Check.mono _ _)
      | (with_reducible exact LeO.refl _)
      | (with_reducible exact LeO.none _)
      | (with_reducible refine LeO.ite ?_ ?_)
      | (with_reducible refine LeO.bind ?_ (fun _ => ?_))
      | exact ih0 _ _ _ _
      | exact ih1 _ _ _ _ _ _ _ _ _
      | exact ranges_Check.mono _ _
      | exact LeO.none _
      | refine LeO.ite ?_ ?_
      | refine LeO.bind ?_ (fun _ => ?_)
set_option maxHeartbeats 8000000 in
set_option maxRecDepth 100000 in
theorem ranges_Pairs.calls (k : Nat) (A0 : Option Addr) (c0 : Nat) (l0 : List (S44)) (r : List (S41)) (w : World) (hr0 : Kd.C k44 w A0 l0.length l0) (hc0 : l0.length ≤ c0) (h : ranges_Pairs.f k l0 = some r) :
    Calls Try.prog 15 #[.slice A0 l0.length c0] w fun e w' => ∃ v0_ : Value, e = .returned (v0_) ∧ Kd.R k41 41 w' w.heap.size (fun _ => True) v0_ r ∧ Below w.heap.size w w' := by
  have hu44 := Try.underlying44
  have hu41 := Try.underlying41
  have HR0 := Aside0.mk hr0
  have HC0 := Aside0.mk hc0
  clear hr0 hc0
  have HB := Aside0.mk (Below.refl w.heap.size w)
  have H : ((ranges_Check.f k l0).bind fun t124 => (if t124 = 0 then (ranges_Pairs.l0 k ([] : List (S41)) l0 (l0.length : Int) 0) else (some ([] : List (S41))))) = some r := h
  clear h
  replace H := Option.bind_eq_some_iff.mp H
  obtain ⟨t124, A20, H⟩ := H
  replace H : (if t124 = 0 then (ranges_Pairs.l0 k ([] : List (S41)) l0 (l0.length : Int) 0) else (some ([] : List (S41)))) = some r := H
  have A2 := Aside0.mk A20
  clear A20
  by_cases c3 : t124 = 0
  · rw [if_pos c3] at H
    have c3b0 : (t124 == 0) = true := beq_iff_eq.mpr c3
    have c3b1 : (t124 != 0) = false := bne_eq_false_iff_eq.mpr c3
    clear c3
    have H' := Aside0.mk H
    clear H
    go_enter Try.func15, Try.ntmps15
    go_wp2_with (first | ((with_reducible refine gate_callee (f := 13) rfl ?_); refine goesL_ (some 8) rfl rfl Try.func13 (by kernel_rfl) rfl #[.slice A0 l0.length c0] rfl (by (try simp only [List.map_toArray, List.map_cons, List.map_nil]); first | done | rfl | (simp only [List.length_drop, List.length_take]; rfl)) ?_; (with_reducible refine (ranges_Check.calls k _ _ l0 t124 _ ?side1 ?side2 A2.out).mono ?_); (case side1 => repeat (first | exact HR0.out | (with_reducible refine Kd.C_alloc ?_ _) | (with_reducible refine Kd.C_drewN ?_ _) | (with_reducible refine Kd.C_drew ?_))); (case side2 => exact HC0.out); rintro e w4 ⟨rfl, hb⟩; refine ⟨_, rfl, ?_⟩; have n0_ := Aside0.mk (below_step (by repeat (first | (with_reducible first | exact HB.out | apply below_alloc | apply pw_below_drewN | apply below_drew1) | exact HB.out)) hb); clear HB; have HB := n0_; clear n0_; (try clear hb); (try clear hb2); (try clear hk); (try clear hi)))
    go_loopg [3, 12] k (fun kq v3 v12 w' => ∃ (x3_1 : List (S41)) (x12_1 : Int), v12 = .int .i64 x12_1 ∧ Aside0 (ranges_Pairs.l0 kq x3_1 l0 (l0.length : Int) x12_1 = some r) ∧ Aside0 (kq ≤ k) ∧ Aside0 (Kd.R k41 41 w' w.heap.size (fun _ => True) v3 x3_1) ∧ Aside0 (Below w.heap.size w w'))
    case atStart => exact ⟨(([] : List (S41))), (0), (by first | rfl | (simp; done) | (simp [*]; done)), H', ⟨Nat.le_refl _⟩, ⟨by first | exact Kd.R_nil _ _ _ _ _ | exact Kd.N_nil _ _ _ _ _ | exact Kd.V_nil _ _ _ _ _ | exact Kd.Q_nil _ _ _ _ _ | exact Kd.S_nil _ _ _ _ _⟩, ⟨by repeat (first | (with_reducible first | exact HB.out | apply below_alloc | apply pw_below_drewN | apply below_drew1) | exact HB.out)⟩⟩
    case round =>
      clear H'
      try clear c1
      try clear p2
      try clear c3
      try clear c3b0
      try clear c3b1
      obtain ⟨x3_1, x12_1, rfl, HA, HK1, HO_3, HB⟩ := hrel
      cases gk with
      | zero => exact absurd HA.out (by simp [ranges_Pairs.l0])
      | succ k1 =>
        have H := HA.out
        clear HA
        simp only [ranges_Pairs.l0] at H
        by_cases c5 : x12_1 < (l0.length : Int)
        · rw [if_pos c5] at H
          have c5b0 : decide (x12_1 < (l0.length : Int)) = true := decide_eq_true c5
          clear c5
          by_cases c6 : 0 ≤ x12_1
          · rw [if_pos c6] at H
            have c6b0 : decide (0 ≤ x12_1) = true := decide_eq_true c6
            clear c6
            by_cases c7 : x12_1 < (l0.length : Int)
            · rw [if_pos c7] at H
              have c7b0 : decide (x12_1 < (l0.length : Int)) = true := decide_eq_true c7
              clear c7
              have H' := Aside0.mk H
              clear H
              have p125 : 0 ≤ (x12_1 : Int) := of_decide_eq_true (by first | (with_reducible assumption) | assumption)
              have q125 : x12_1 < (l0.length : Int) := of_decide_eq_true (by first | (with_reducible assumption) | assumption)
              obtain ⟨ad125, e125, hx125_0, hx125_1, hx125_2⟩ := at_T44 HR0.out x12_1 p125 q125
              cases e125
              replace hx125_0 := (HB.out.cell (World.block_lt_of_cell? w _ hx125_0)).trans hx125_0
              replace hx125_1 := (HB.out.cell (World.block_lt_of_cell? w _ hx125_1)).trans hx125_1
              replace hx125_2 := (HB.out.cell (World.block_lt_of_cell? w _ hx125_2)).trans hx125_2
              replace p125 := eq_true p125
              replace q125 := eq_true q125
              go_wp2_with (first | ((with_reducible refine gate_dst (N := 5) rfl ?_); refine box_event ?hg (N := 5) ?hd (cs := #[.int .i64 0, .int .i64 0, .int .i32 0]) (t := 44) ?hr ?_; (case hd => rfl); (case hg => rfl); (case hr => first | (go_simp; done) | (go_simp; rfl)); intro gb126 hg w8 hbox hb; have n0_ := Aside0.mk (Kd.R_below (by (with_reducible repeat (first | apply Kd.R_alloc | apply Kd.R_drewN | apply Kd.R_drew)); exact HO_3.out) hb); have n1_ := Aside0.mk (below_step (by repeat (first | (with_reducible first | exact HB.out | apply below_alloc | apply pw_below_drewN | apply below_drew1) | exact HB.out)) hb); have n2_ := Aside0.mk (hbox); have n3_ := Aside0.mk ((by rw [hg]; exact (below_size (by repeat (first | (with_reducible first | exact HB.out | apply below_alloc | apply pw_below_drewN | apply below_drew1) | exact HB.out))) : w.heap.size ≤ gb126)); have n4_ := Aside0.mk ((by rw [hg]; exact (below_size (by repeat (first | (with_reducible first | exact HB.out | apply below_alloc | apply pw_below_drewN | apply below_drew1) | exact HB.out))) : w.heap.size ≤ gb126)); clear HO_3; clear HB; have HO_3 := n0_; have HB := n1_; have BK126 := n2_; have GW126 := n3_; have GE126 := n4_; clear n0_ n1_ n2_ n3_ n4_; clear hb hbox hg; have hcz9_0 : w8.cell? ⟨gb126, 0, none⟩ = some (.int .i64 0) := (blk_cell BK126.out 0).trans rfl; have hcz9_1 : w8.cell? ⟨gb126, 1, none⟩ = some (.int .i64 0) := (blk_cell BK126.out 1).trans rfl; have hcz9_2 : w8.cell? ⟨gb126, 2, none⟩ = some (.int .i32 0) := (blk_cell BK126.out 2).trans rfl; have hfz9_0 := blk_frozen BK126.out 0; have hfz9_1 := blk_frozen BK126.out 1; have hfz9_2 := blk_frozen BK126.out 2))
              go_loopg [3, 22] k1 (fun kq v3 v22 w' => ∃ (x3_2 : List (S41)) (x22_2 : Int), v22 = .int .i64 x22_2 ∧ Aside0 (ranges_Pairs.l1 kq x3_2 l0 (l0.length : Int) x12_1 (wrap64 ((wrap64 (((rd_T44 l0 x12_1).f1) - ((rd_T44 l0 x12_1).f0))) + 1)) x22_2 ((rd_T44 l0 x12_1).f0) ((rd_T44 l0 x12_1).f1) ((rd_T44 l0 x12_1).f2) = some r) ∧ Aside0 (kq ≤ k1) ∧ Aside0 (Kd.R k41 41 w' w.heap.size (fun _ => True) v3 x3_2) ∧ Aside0 (w'.heap[gb126]? = some (.cells #[.int .i64 ((rd_T44 l0 x12_1).f0), .int .i64 ((rd_T44 l0 x12_1).f1), .int .i32 ((rd_T44 l0 x12_1).f2)] 44 (0, 0))) ∧ Aside0 (Below w.heap.size w w'))
              case atStart => exact ⟨(x3_1), (0), (by first | rfl | (simp; done) | (simp [*]; done)), H', ⟨Nat.le_refl _⟩, ⟨by (with_reducible repeat (first | apply Kd.R_alloc | apply Kd.R_drewN | apply Kd.R_drew)); exact Kd.R_mono (Kd.R_far (p := ⟨gb126, 2, none⟩) (Kd.R_far (p := ⟨gb126, 1, none⟩) (Kd.R_far (p := ⟨gb126, 0, none⟩) (Kd.R_types HO_3.out BK126.out (by decide)) (fun _ hk => hk.2) (.int .i64 ((rd_T44 l0 x12_1).f0))) (fun _ hk => hk.2) (.int .i64 ((rd_T44 l0 x12_1).f1))) (fun _ hk => hk.2) (.int .i32 ((rd_T44 l0 x12_1).f2))) (fun _ hk => trivial)⟩, ⟨by (with_reducible repeat (first | refine blk_drewN ?_ _ | refine blk_drew ?_ | refine blk_alloc ?_ _)); refine blk_put (cs := #[.int .i64 ((rd_T44 l0 x12_1).f0), .int .i64 ((rd_T44 l0 x12_1).f1), .int .i32 0]) ?_ 2 _ rfl; (with_reducible repeat (first | refine blk_drewN ?_ _ | refine blk_drew ?_ | refine blk_alloc ?_ _)); refine blk_put (cs := #[.int .i64 ((rd_T44 l0 x12_1).f0), .int .i64 0, .int .i32 0]) ?_ 1 _ rfl; (with_reducible repeat (first | refine blk_drewN ?_ _ | refine blk_drew ?_ | refine blk_alloc ?_ _)); refine blk_put (cs := #[.int .i64 0, .int .i64 0, .int .i32 0]) ?_ 0 _ rfl; (with_reducible repeat (first | refine blk_drewN ?_ _ | refine blk_drew ?_ | refine blk_alloc ?_ _)); exact BK126.out⟩, ⟨by repeat (first | (with_reducible first | exact HB.out | apply below_alloc | apply pw_below_drewN | apply below_drew1 | refine below_set ?_ GE126.out) | exact HB.out)⟩⟩
              case round =>
                clear H'
                try clear c1
                try clear p1
                try clear q1
                try clear hx1
                try clear p2
                try clear c3
                try clear c3b0
                try clear c3b1
                try clear c5
                try clear c5b0
                try clear c6
                try clear c6b0
                try clear p6
                try clear c7
                try clear c7b0
                try clear hcz9_0
                try clear hcz9_1
                try clear hcz9_2
                try clear hfz9_0
                try clear hfz9_1
                try clear hfz9_2
                try clear hx125_0
                try clear hx125_1
                try clear hx125_2
                try clear p125
                try clear p2
                try clear q125
                obtain ⟨x3_2, x22_2, rfl, HA, HK2, HO_3, BK126, HB⟩ := hrel
                cases gk with
                | zero => exact absurd HA.out (by simp [ranges_Pairs.l1])
                | succ k2 =>
                  have H := HA.out
                  clear HA
                  simp only [ranges_Pairs.l1] at H
                  by_cases c10 : x22_2 < (wrap64 ((wrap64 (((rd_T44 l0 x12_1).f1) - ((rd_T44 l0 x12_1).f0))) + 1))
                  · rw [if_pos c10] at H
                    have c10b0 : decide (x22_2 < (wrap64 ((wrap64 (((rd_T44 l0 x12_1).f1) - ((rd_T44 l0 x12_1).f0))) + 1))) = true := decide_eq_true c10
                    clear c10
                    by_cases c11 : x3_2.length < 8796093022208
                    · rw [if_pos c11] at H
                      have LMc11 := Aside0.mk c11
                      clear c11
                      obtain ⟨y127, hy127⟩ : ∃ y_ : List (S41), y_ = (x3_2 ++ [(⟨wrap64 (((rd_T44 l0 x12_1).f0) + x22_2), wrap32 (((rd_T44 l0 x12_1).f2) + (wrap32 (x22_2)))⟩ : S41)]) := ⟨_, rfl⟩
                      replace H : (ranges_Pairs.l1 k2 y127 l0 (l0.length : Int) x12_1 (wrap64 ((wrap64 (((rd_T44 l0 x12_1).f1) - ((rd_T44 l0 x12_1).f0))) + 1)) (wrap64 (x22_2 + 1)) ((rd_T44 l0 x12_1).f0) ((rd_T44 l0 x12_1).f1) ((rd_T44 l0 x12_1).f2)) = some r := by first | (rw [hy127]; with_reducible exact H) | (have H2_ := (Option.bind_some _ _).symm.trans H; rw [hy127]; with_reducible exact H2_) | (have H2_ := (Option.bind_some _ _).symm.trans H; with_reducible exact H2_) | with_reducible exact H | (rw [hy127]; exact H) | exact H
                      have Ny127 := Aside0.mk hy127
                      clear hy127
                      have H' := Aside0.mk H
                      clear H
                      have hcz12_0 : wr.cell? ⟨gb126, 0, none⟩ = some (.int .i64 ((rd_T44 l0 x12_1).f0)) := (blk_cell BK126.out 0).trans rfl
                      have hcz12_1 : wr.cell? ⟨gb126, 1, none⟩ = some (.int .i64 ((rd_T44 l0 x12_1).f1)) := (blk_cell BK126.out 1).trans rfl
                      have hcz12_2 : wr.cell? ⟨gb126, 2, none⟩ = some (.int .i32 ((rd_T44 l0 x12_1).f2)) := (blk_cell BK126.out 2).trans rfl
                      have hfz12_0 := blk_frozen BK126.out 0
                      have hfz12_1 := blk_frozen BK126.out 1
                      have hfz12_2 := blk_frozen BK126.out 2
                      go_wp2_with (first | ((with_reducible refine gate_builtin (b := .append) (xs := #[.tmp 25, .tmp 36]) rfl ?_); at_builtin; refine Kd.R_append k41 (w0 := w) w.heap.size rfl (.tmp 25) (.tmp 36) 22 41 (.agg #[(.int .i64 0), (.int .i32 0)]) 16 rfl Try.underlying22 info41 rfl (by decide) (by omega) u3 x3_2 (⟨wrap64 (((rd_T44 l0 x12_1).f0) + x22_2), wrap32 (((rd_T44 l0 x12_1).f2) + (wrap32 (x22_2)))⟩ : S41) [.int .i64 (wrap64 (((rd_T44 l0 x12_1).f0) + x22_2)), .int .i32 (wrap32 (((rd_T44 l0 x12_1).f2) + (wrap32 (x22_2))))] (fun _ => True) (fun _ => False) rfl rfl ?aP (fun _ hk => hk.elim) ?aF ?aO ?aB ?aS ?aL ?_; (case aP => exact k41_mkM _ _ _ (⟨wrap64 (((rd_T44 l0 x12_1).f0) + x22_2), wrap32 (((rd_T44 l0 x12_1).f2) + (wrap32 (x22_2)))⟩ : S41)); (case aB => exact (by repeat (first | (with_reducible first | exact HB.out | apply below_alloc | apply pw_below_drewN | apply below_drew1 | refine below_set ?_ GE126.out) | exact HB.out))); (case aF => exact (fun _ _ => trivial)); (case aO => exact (by (with_reducible repeat (first | apply Kd.R_alloc | apply Kd.R_drewN | apply Kd.R_drew)); exact HO_3.out)); (case aS => exact (below_size (by repeat (first | (with_reducible first | exact HB.out | apply below_alloc | apply pw_below_drewN | apply below_drew1 | refine below_set ?_ GE126.out) | exact HB.out)))); (case aL => have := LMc11.out; omega); intro v128 w13 ho hb hg hat; rw [← Ny127.out] at ho; have n0_ := Aside0.mk (blk_grown (g := gb126) (o := .cells #[.int .i64 ((rd_T44 l0 x12_1).f0), .int .i64 ((rd_T44 l0 x12_1).f1), .int .i32 ((rd_T44 l0 x12_1).f2)] 44 (0, 0)) (by (with_reducible repeat (first | refine blk_drewN ?_ _ | refine blk_drew ?_ | refine blk_alloc ?_ _)); exact BK126.out) hg (Kd.R_ne HO_3.out BK126.out (by decide))); have n1_ := Aside0.mk (hb); have n2_ := Aside0.mk (ho); clear BK126; clear HB; clear HO_3; have BK126 := n0_; have HB := n1_; have HO129 := n2_; clear n0_ n1_ n2_; clear ho hb hg hat))
                      go_roundg k2
                      case measure => have := HK1.out; have := HK2.out; omega
                      case rel => exact ⟨(y127), (wrap64 (x22_2 + 1)), (by first | rfl | (simp; done) | (simp [*]; done)), H', ⟨by have := HK1.out; have := HK2.out; omega⟩, ⟨by (with_reducible repeat (first | apply Kd.R_alloc | apply Kd.R_drewN | apply Kd.R_drew)); exact HO129.out⟩, ⟨by (with_reducible repeat (first | refine blk_drewN ?_ _ | refine blk_drew ?_ | refine blk_alloc ?_ _)); exact BK126.out⟩, ⟨by repeat (first | (with_reducible first | exact HB.out | apply below_alloc | apply pw_below_drewN | apply below_drew1 | refine below_set ?_ GE126.out) | exact HB.out)⟩⟩
                    · rw [if_neg c11] at H
                      exact absurd H (by simp)
                  · rw [if_neg c10] at H
                    have c10b0 : decide (x22_2 < (wrap64 ((wrap64 (((rd_T44 l0 x12_1).f1) - ((rd_T44 l0 x12_1).f0))) + 1))) = false := decide_eq_false c10
                    clear c10
                    have H' := Aside0.mk H
                    clear H
                    go_wp2
                    go_roundg k2
                    case measure => have := HK1.out; have := HK2.out; omega
                    case rel => exact ⟨(x3_2), (wrap64 (x12_1 + 1)), (by first | rfl | (simp; done) | (simp [*]; done)), H', ⟨by have := HK1.out; have := HK2.out; omega⟩, ⟨by (with_reducible repeat (first | apply Kd.R_alloc | apply Kd.R_drewN | apply Kd.R_drew)); exact HO_3.out⟩, ⟨by repeat (first | (with_reducible first | exact HB.out | apply below_alloc | apply pw_below_drewN | apply below_drew1 | refine below_set ?_ GE126.out) | exact HB.out)⟩⟩
            · rw [if_neg c7] at H
              exact absurd H (by simp)
          · rw [if_neg c6] at H
            exact absurd H (by simp)
        · rw [if_neg c5] at H
          have c5b0 : decide (x12_1 < (l0.length : Int)) = false := decide_eq_false c5
          clear c5
          obtain rfl := Option.some.inj H
          go_wp2
          go_ret
          exact ⟨_, by first | rfl | (simp [errW_none, errW_some] <;> rfl) | (simp [*, errW_none, errW_some] <;> rfl), by (with_reducible repeat (first | apply Kd.R_alloc | apply Kd.R_drewN | apply Kd.R_drew)); exact HO_3.out, by repeat (first | (with_reducible first | exact HB.out | apply below_alloc | apply pw_below_drewN | apply below_drew1) | exact HB.out)⟩
  · rw [if_neg c3] at H
    have c3b0 : (t124 == 0) = false := beq_eq_false_iff_ne.mpr c3
    have c3b1 : (t124 != 0) = true := bne_iff_ne.mpr c3
    obtain rfl := Option.some.inj H
    go_enter Try.func15, Try.ntmps15
    go_wp2_with (first | ((with_reducible refine gate_callee (f := 13) rfl ?_); refine goesL_ (some 8) rfl rfl Try.func13 (by kernel_rfl) rfl #[.slice A0 l0.length c0] rfl (by (try simp only [List.map_toArray, List.map_cons, List.map_nil]); first | done | rfl | (simp only [List.length_drop, List.length_take]; rfl)) ?_; (with_reducible refine (ranges_Check.calls k _ _ l0 t124 _ ?side1 ?side2 A2.out).mono ?_); (case side1 => repeat (first | exact HR0.out | (with_reducible refine Kd.C_alloc ?_ _) | (with_reducible refine Kd.C_drewN ?_ _) | (with_reducible refine Kd.C_drew ?_))); (case side2 => exact HC0.out); rintro e w14 ⟨rfl, hb⟩; refine ⟨_, rfl, ?_⟩; have n0_ := Aside0.mk (below_step (by repeat (first | (with_reducible first | exact HB.out | apply below_alloc | apply pw_below_drewN | apply below_drew1) | exact HB.out)) hb); clear HB; have HB := n0_; clear n0_; (try clear hb); (try clear hb2); (try clear hk); (try clear hi)))
    go_ret
    exact ⟨_, by first | rfl | (simp [errW_none, errW_some] <;> rfl) | (simp [*, errW_none, errW_some] <;> rfl), by first | exact Kd.R_nil _ _ _ _ _ | exact Kd.N_nil _ _ _ _ _ | exact Kd.V_nil _ _ _ _ _ | exact Kd.Q_nil _ _ _ _ _ | exact Kd.S_nil _ _ _ _ _, by repeat (first | (with_reducible first | exact HB.out | apply below_alloc | apply pw_below_drewN | apply below_drew1) | exact HB.out)⟩

-- NOT PRINTED: function 25 (api_Range_int)

/-! ### ranges_Code: function 18 -/
def ranges_Code.l0 : Nat → Int → List (S44) → Int → Int → Option (Int × Bool)
  | 0, _, _, _, _ => none
  | k + 1, x1, x9, x10, x11 => if x11 < x10 then (if 0 ≤ x11 then (if x11 < (x9.length : Int) then (if (wrap64 ((wrap64 (x1)) - (wrap64 ((rd_T44 x9 x11).f2)))) ≥ 0 then (if (wrap64 ((wrap64 (x1)) - (wrap64 ((rd_T44 x9 x11).f2)))) ≤ (wrap64 (((rd_T44 x9 x11).f1) - ((rd_T44 x9 x11).f0))) then (some (wrap64 (((rd_T44 x9 x11).f0) + (wrap64 ((wrap64 (x1)) - (wrap64 ((rd_T44 x9 x11).f2))))), true)) else (ranges_Code.l0 k x1 x9 x10 (wrap64 (x11 + 1)))) else (ranges_Code.l0 k x1 x9 x10 (wrap64 (x11 + 1)))) else (none)) else (none)) else (some (0, false))
def ranges_Code.f (k : Nat) (l0 : List (S44)) (a1 : Int) : Option (Int × Bool) := ranges_Code.l0 k a1 l0 (l0.length : Int) 0
theorem ranges_Code.mono_l : ∀ k, (∀ y0 y1 y2 y3, LeO (ranges_Code.l0 k y0 y1 y2 y3) (ranges_Code.l0 (k + 1) y0 y1 y2 y3))
  | 0 => fun _ _ _ _ r h => by simp [ranges_Code.l0] at h
  | k + 1 => by
    have ih0 := ranges_Code.mono_l k
    · intro y0 y1 y2 y3
      unfold ranges_Code.l0
      repeat' first
      | (with_reducible exact ih0 _ _ _ _)
      | (with_reducible exact LeO.refl _)
      | (with_reducible exact LeO.none _)
      | (with_reducible refine LeO.ite ?_ ?_)
      | (with_reducible refine LeO.bind ?_ (fun _ => ?_))
      | exact ih0 _ _ _ _
      | exact LeO.none _
      | refine LeO.ite ?_ ?_
      | refine LeO.bind ?_ (fun _ => ?_)
theorem ranges_Code.mono : ∀ a0 a1 k, LeO (ranges_Code.f k a0 a1) (ranges_Code.f (k + 1) a0 a1) := by
  intro a0 a1 k
  have ih0 := ranges_Code.mono_l k
  unfold ranges_Code.f
  repeat' first
      | (with_reducible exact ih0 _ _ _ _)
      | (with_reducible exact LeO.refl _)
      | (with_reducible exact LeO.none _)
      | (with_reducible refine LeO.ite ?_ ?_)
      | (with_reducible refine LeO.bind ?_ (fun _ => ?_))
      | exact ih0 _ _ _ _
      | exact LeO.none _
      | refine LeO.ite ?_ ?_
      | refine LeO.bind ?_ (fun _ => ?_)
set_option maxHeartbeats 8000000 in
set_option maxRecDepth 100000 in
theorem ranges_Code.calls (k : Nat) (A0 : Option Addr) (c0 : Nat) (l0 : List (S44)) (a1 : Int) (r1 : Int) (r2 : Bool) (w : World) (hr0 : Kd.C k44 w A0 l0.length l0) (hc0 : l0.length ≤ c0) (h : ranges_Code.f k l0 a1 = some (r1, r2)) :
    Calls Try.prog 18 #[.slice A0 l0.length c0, .int .i32 a1] w fun e w' => e = .returned (.tuple #[.int .i64 r1, .bool r2]) ∧ Below w.heap.size w w' := by
  have hu44 := Try.underlying44
  have HR0 := Aside0.mk hr0
  have HC0 := Aside0.mk hc0
  clear hr0 hc0
  have HB := Aside0.mk (Below.refl w.heap.size w)
  have H : (ranges_Code.l0 k a1 l0 (l0.length : Int) 0) = some (r1, r2) := h
  clear h
  have H' := Aside0.mk H
  clear H
  go_enter Try.func18, Try.ntmps18
  go_wp2
  go_loopg [11] k (fun kq v11 w' => ∃ (x11_1 : Int), v11 = .int .i64 x11_1 ∧ Aside0 (ranges_Code.l0 kq a1 l0 (l0.length : Int) x11_1 = some (r1, r2)) ∧ Aside0 (kq ≤ k) ∧ Aside0 (Below w.heap.size w w'))
  case atStart => exact ⟨(0), (by first | rfl | (simp; done) | (simp [*]; done)), H', ⟨Nat.le_refl _⟩, ⟨by repeat (first | (with_reducible first | exact HB.out | apply below_alloc | apply pw_below_drewN | apply below_drew1) | exact HB.out)⟩⟩
  case round =>
    clear H'
    try clear c1
    try clear p2
    obtain ⟨x11_1, rfl, HA, HK1, HB⟩ := hrel
    cases gk with
    | zero => exact absurd HA.out (by simp [ranges_Code.l0])
    | succ k1 =>
      have H := HA.out
      clear HA
      simp only [ranges_Code.l0] at H
      by_cases c3 : x11_1 < (l0.length : Int)
      · rw [if_pos c3] at H
        have c3b0 : decide (x11_1 < (l0.length : Int)) = true := decide_eq_true c3
        clear c3
        by_cases c4 : 0 ≤ x11_1
        · rw [if_pos c4] at H
          have c4b0 : decide (0 ≤ x11_1) = true := decide_eq_true c4
          clear c4
          by_cases c5 : x11_1 < (l0.length : Int)
          · rw [if_pos c5] at H
            have c5b0 : decide (x11_1 < (l0.length : Int)) = true := decide_eq_true c5
            clear c5
            by_cases c6 : (wrap64 ((wrap64 (a1)) - (wrap64 ((rd_T44 l0 x11_1).f2)))) ≥ 0
            · rw [if_pos c6] at H
              have c6b0 : decide (0 ≤ (wrap64 ((wrap64 (a1)) - (wrap64 ((rd_T44 l0 x11_1).f2))))) = true := decide_eq_true c6
              clear c6
              by_cases c7 : (wrap64 ((wrap64 (a1)) - (wrap64 ((rd_T44 l0 x11_1).f2)))) ≤ (wrap64 (((rd_T44 l0 x11_1).f1) - ((rd_T44 l0 x11_1).f0)))
              · rw [if_pos c7] at H
                have c7b0 : decide ((wrap64 ((wrap64 (a1)) - (wrap64 ((rd_T44 l0 x11_1).f2)))) ≤ (wrap64 (((rd_T44 l0 x11_1).f1) - ((rd_T44 l0 x11_1).f0)))) = true := decide_eq_true c7
                clear c7
                simp only [Option.some.injEq, Prod.mk.injEq] at H
                obtain ⟨rfl, rfl⟩ := H
                have p130 : 0 ≤ (x11_1 : Int) := of_decide_eq_true (by first | (with_reducible assumption) | assumption)
                have q130 : x11_1 < (l0.length : Int) := of_decide_eq_true (by first | (with_reducible assumption) | assumption)
                obtain ⟨ad130, e130, hx130_0, hx130_1, hx130_2⟩ := at_T44 HR0.out x11_1 p130 q130
                cases e130
                replace hx130_0 := (HB.out.cell (World.block_lt_of_cell? w _ hx130_0)).trans hx130_0
                replace hx130_1 := (HB.out.cell (World.block_lt_of_cell? w _ hx130_1)).trans hx130_1
                replace hx130_2 := (HB.out.cell (World.block_lt_of_cell? w _ hx130_2)).trans hx130_2
                replace p130 := eq_true p130
                replace q130 := eq_true q130
                go_wp2_with (first | ((with_reducible refine gate_dst (N := 7) rfl ?_); refine box_event ?hg (N := 7) ?hd (cs := #[.int .i64 0, .int .i64 0, .int .i32 0]) (t := 44) ?hr ?_; (case hd => rfl); (case hg => rfl); (case hr => first | (go_simp; done) | (go_simp; rfl)); intro gb131 hg w8 hbox hb; have n0_ := Aside0.mk (below_step (by repeat (first | (with_reducible first | exact HB.out | apply below_alloc | apply pw_below_drewN | apply below_drew1) | exact HB.out)) hb); have n1_ := Aside0.mk (hbox); have n2_ := Aside0.mk ((by rw [hg]; exact (below_size (by repeat (first | (with_reducible first | exact HB.out | apply below_alloc | apply pw_below_drewN | apply below_drew1) | exact HB.out))) : w.heap.size ≤ gb131)); have n3_ := Aside0.mk ((by rw [hg]; exact (below_size (by repeat (first | (with_reducible first | exact HB.out | apply below_alloc | apply pw_below_drewN | apply below_drew1) | exact HB.out))) : w.heap.size ≤ gb131)); clear HB; have HB := n0_; have BK131 := n1_; have GW131 := n2_; have GE131 := n3_; clear n0_ n1_ n2_ n3_; clear hb hbox hg; have hcz9_0 : w8.cell? ⟨gb131, 0, none⟩ = some (.int .i64 0) := (blk_cell BK131.out 0).trans rfl; have hcz9_1 : w8.cell? ⟨gb131, 1, none⟩ = some (.int .i64 0) := (blk_cell BK131.out 1).trans rfl; have hcz9_2 : w8.cell? ⟨gb131, 2, none⟩ = some (.int .i32 0) := (blk_cell BK131.out 2).trans rfl; have hfz9_0 := blk_frozen BK131.out 0; have hfz9_1 := blk_frozen BK131.out 1; have hfz9_2 := blk_frozen BK131.out 2))
                go_ret2
                exact ⟨by first | rfl | (simp [errW_none, errW_some] <;> rfl) | (simp [*, errW_none, errW_some] <;> rfl), by repeat (first | (with_reducible first | exact HB.out | apply below_alloc | apply pw_below_drewN | apply below_drew1 | refine below_set ?_ GE131.out) | exact HB.out)⟩
              · rw [if_neg c7] at H
                have c7b0 : decide ((wrap64 ((wrap64 (a1)) - (wrap64 ((rd_T44 l0 x11_1).f2)))) ≤ (wrap64 (((rd_T44 l0 x11_1).f1) - ((rd_T44 l0 x11_1).f0)))) = false := decide_eq_false c7
                clear c7
                have H' := Aside0.mk H
                clear H
                have p130 : 0 ≤ (x11_1 : Int) := of_decide_eq_true (by first | (with_reducible assumption) | assumption)
                have q130 : x11_1 < (l0.length : Int) := of_decide_eq_true (by first | (with_reducible assumption) | assumption)
                obtain ⟨ad130, e130, hx130_0, hx130_1, hx130_2⟩ := at_T44 HR0.out x11_1 p130 q130
                cases e130
                replace hx130_0 := (HB.out.cell (World.block_lt_of_cell? w _ hx130_0)).trans hx130_0
                replace hx130_1 := (HB.out.cell (World.block_lt_of_cell? w _ hx130_1)).trans hx130_1
                replace hx130_2 := (HB.out.cell (World.block_lt_of_cell? w _ hx130_2)).trans hx130_2
                replace p130 := eq_true p130
                replace q130 := eq_true q130
                go_wp2_with (first | ((with_reducible refine gate_dst (N := 7) rfl ?_); refine box_event ?hg (N := 7) ?hd (cs := #[.int .i64 0, .int .i64 0, .int .i32 0]) (t := 44) ?hr ?_; (case hd => rfl); (case hg => rfl); (case hr => first | (go_simp; done) | (go_simp; rfl)); intro gb131 hg w10 hbox hb; have n0_ := Aside0.mk (below_step (by repeat (first | (with_reducible first | exact HB.out | apply below_alloc | apply pw_below_drewN | apply below_drew1) | exact HB.out)) hb); have n1_ := Aside0.mk (hbox); have n2_ := Aside0.mk ((by rw [hg]; exact (below_size (by repeat (first | (with_reducible first | exact HB.out | apply below_alloc | apply pw_below_drewN | apply below_drew1) | exact HB.out))) : w.heap.size ≤ gb131)); have n3_ := Aside0.mk ((by rw [hg]; exact (below_size (by repeat (first | (with_reducible first | exact HB.out | apply below_alloc | apply pw_below_drewN | apply below_drew1) | exact HB.out))) : w.heap.size ≤ gb131)); clear HB; have HB := n0_; have BK131 := n1_; have GW131 := n2_; have GE131 := n3_; clear n0_ n1_ n2_ n3_; clear hb hbox hg; have hcz11_0 : w10.cell? ⟨gb131, 0, none⟩ = some (.int .i64 0) := (blk_cell BK131.out 0).trans rfl; have hcz11_1 : w10.cell? ⟨gb131, 1, none⟩ = some (.int .i64 0) := (blk_cell BK131.out 1).trans rfl; have hcz11_2 : w10.cell? ⟨gb131, 2, none⟩ = some (.int .i32 0) := (blk_cell BK131.out 2).trans rfl; have hfz11_0 := blk_frozen BK131.out 0; have hfz11_1 := blk_frozen BK131.out 1; have hfz11_2 := blk_frozen BK131.out 2))
                go_roundg k1
                case measure => have := HK1.out; omega
                case rel => exact ⟨(wrap64 (x11_1 + 1)), (by first | rfl | (simp; done) | (simp [*]; done)), H', ⟨by have := HK1.out; omega⟩, ⟨by repeat (first | (with_reducible first | exact HB.out | apply below_alloc | apply pw_below_drewN | apply below_drew1 | refine below_set ?_ GE131.out) | exact HB.out)⟩⟩
            · rw [if_neg c6] at H
              have c6b0 : decide (0 ≤ (wrap64 ((wrap64 (a1)) - (wrap64 ((rd_T44 l0 x11_1).f2))))) = false := decide_eq_false c6
              clear c6
              have H' := Aside0.mk H
              clear H
              have p130 : 0 ≤ (x11_1 : Int) := of_decide_eq_true (by first | (with_reducible assumption) | assumption)
              have q130 : x11_1 < (l0.length : Int) := of_decide_eq_true (by first | (with_reducible assumption) | assumption)
              obtain ⟨ad130, e130, hx130_0, hx130_1, hx130_2⟩ := at_T44 HR0.out x11_1 p130 q130
              cases e130
              replace hx130_0 := (HB.out.cell (World.block_lt_of_cell? w _ hx130_0)).trans hx130_0
              replace hx130_1 := (HB.out.cell (World.block_lt_of_cell? w _ hx130_1)).trans hx130_1
              replace hx130_2 := (HB.out.cell (World.block_lt_of_cell? w _ hx130_2)).trans hx130_2
              replace p130 := eq_true p130
              replace q130 := eq_true q130
              go_wp2_with (first | ((with_reducible refine gate_dst (N := 7) rfl ?_); refine box_event ?hg (N := 7) ?hd (cs := #[.int .i64 0, .int .i64 0, .int .i32 0]) (t := 44) ?hr ?_; (case hd => rfl); (case hg => rfl); (case hr => first | (go_simp; done) | (go_simp; rfl)); intro gb131 hg w12 hbox hb; have n0_ := Aside0.mk (below_step (by repeat (first | (with_reducible first | exact HB.out | apply below_alloc | apply pw_below_drewN | apply below_drew1) | exact HB.out)) hb); have n1_ := Aside0.mk (hbox); have n2_ := Aside0.mk ((by rw [hg]; exact (below_size (by repeat (first | (with_reducible first | exact HB.out | apply below_alloc | apply pw_below_drewN | apply below_drew1) | exact HB.out))) : w.heap.size ≤ gb131)); have n3_ := Aside0.mk ((by rw [hg]; exact (below_size (by repeat (first | (with_reducible first | exact HB.out | apply below_alloc | apply pw_below_drewN | apply below_drew1) | exact HB.out))) : w.heap.size ≤ gb131)); clear HB; have HB := n0_; have BK131 := n1_; have GW131 := n2_; have GE131 := n3_; clear n0_ n1_ n2_ n3_; clear hb hbox hg; have hcz13_0 : w12.cell? ⟨gb131, 0, none⟩ = some (.int .i64 0) := (blk_cell BK131.out 0).trans rfl; have hcz13_1 : w12.cell? ⟨gb131, 1, none⟩ = some (.int .i64 0) := (blk_cell BK131.out 1).trans rfl; have hcz13_2 : w12.cell? ⟨gb131, 2, none⟩ = some (.int .i32 0) := (blk_cell BK131.out 2).trans rfl; have hfz13_0 := blk_frozen BK131.out 0; have hfz13_1 := blk_frozen BK131.out 1; have hfz13_2 := blk_frozen BK131.out 2))
              go_roundg k1
              case measure => have := HK1.out; omega
              case rel => exact ⟨(wrap64 (x11_1 + 1)), (by first | rfl | (simp; done) | (simp [*]; done)), H', ⟨by have := HK1.out; omega⟩, ⟨by repeat (first | (with_reducible first | exact HB.out | apply below_alloc | apply pw_below_drewN | apply below_drew1 | refine below_set ?_ GE131.out) | exact HB.out)⟩⟩
          · rw [if_neg c5] at H
            exact absurd H (by simp)
        · rw [if_neg c4] at H
          exact absurd H (by simp)
      · rw [if_neg c3] at H
        have c3b0 : decide (x11_1 < (l0.length : Int)) = false := decide_eq_false c3
        clear c3
        simp only [Option.some.injEq, Prod.mk.injEq] at H
        obtain ⟨rfl, rfl⟩ := H
        go_wp2
        go_ret2
        exact ⟨by first | rfl | (simp [errW_none, errW_some] <;> rfl) | (simp [*, errW_none, errW_some] <;> rfl), by repeat (first | (with_reducible first | exact HB.out | apply below_alloc | apply pw_below_drewN | apply below_drew1) | exact HB.out)⟩

/-! ### dragomanlaw06_works: function 20 -/
def dragomanlaw06_works.f (k : Nat)  : Option (Bool) := (ranges_Pack.f k (([(⟨1, 97⟩ : S41), (⟨2, 98⟩ : S41), (⟨4, 99⟩ : S41)] : List (S41)))).bind fun bt135 => ((ranges_Scalar.f k bt135.1 2).bind fun bt139 => ((ranges_Code.f k bt135.1 99).bind fun bt141 => (if bt135.2 = 0 then (if (bt135.1.length : Int) = 2 then (if bt139.1 = 98 then (if bt139.2 = true then (if bt141.1 = 4 then (if bt141.2 = true then ((ranges_Check.f k (([(⟨2, 1, 0⟩ : S44)] : List (S44)))).bind fun t146 => (some (t146 == 3))) else (some false)) else (some false)) else (some false)) else (some false)) else (some false)) else (some false))))
theorem dragomanlaw06_works.mono : ∀ k, LeO (dragomanlaw06_works.f k ) (dragomanlaw06_works.f (k + 1) ) := by
  intro  k
  unfold dragomanlaw06_works.f
  repeat' first
      | (with_reducible exact ranges_Check.mono _ _)
      | (with_reducible exact ranges_Code.mono _ _ _)
      | (with_reducible exact ranges_Pack.mono _ _)
      | (with_reducible exact ranges_Scalar.mono _ _ _)
      | (with_reducible exact LeO.refl _)
      | (with_reducible exact LeO.none _)
      | (with_reducible refine LeO.ite ?_ ?_)
      | (with_reducible refine LeO.bind ?_ (fun _ => ?_))
      | exact ranges_Check.mono _ _
      | exact ranges_Code.mono _ _ _
      | exact ranges_Pack.mono _ _
      | exact ranges_Scalar.mono _ _ _
      | exact LeO.none _
      | refine LeO.ite ?_ ?_
      | refine LeO.bind ?_ (fun _ => ?_)
set_option maxHeartbeats 8000000 in
set_option maxRecDepth 100000 in
theorem dragomanlaw06_works.calls (k : Nat)  (r : Bool) (w : World) (h : dragomanlaw06_works.f k  = some r) :
    Calls Try.prog 20 #[] w fun e w' => e = .returned (.bool r) ∧ Below w.heap.size w w' := by
  have hu41 := Try.underlying41
  have hu44 := Try.underlying44
  have HB := Aside0.mk (Below.refl w.heap.size w)
  have H : ((ranges_Pack.f k (([(⟨1, 97⟩ : S41), (⟨2, 98⟩ : S41), (⟨4, 99⟩ : S41)] : List (S41)))).bind fun bt135 => ((ranges_Scalar.f k bt135.1 2).bind fun bt139 => ((ranges_Code.f k bt135.1 99).bind fun bt141 => (if bt135.2 = 0 then (if (bt135.1.length : Int) = 2 then (if bt139.1 = 98 then (if bt139.2 = true then (if bt141.1 = 4 then (if bt141.2 = true then ((ranges_Check.f k (([(⟨2, 1, 0⟩ : S44)] : List (S44)))).bind fun t146 => (some (t146 == 3))) else (some false)) else (some false)) else (some false)) else (some false)) else (some false)) else (some false))))) = some r := h
  clear h
  obtain ⟨y132, hy132⟩ : ∃ y_ : List (S41), y_ = (([(⟨1, 97⟩ : S41), (⟨2, 98⟩ : S41), (⟨4, 99⟩ : S41)] : List (S41))) := ⟨_, rfl⟩
  replace H : ((ranges_Pack.f k y132).bind fun bt135 => ((ranges_Scalar.f k bt135.1 2).bind fun bt139 => ((ranges_Code.f k bt135.1 99).bind fun bt141 => (if bt135.2 = 0 then (if (bt135.1.length : Int) = 2 then (if bt139.1 = 98 then (if bt139.2 = true then (if bt141.1 = 4 then (if bt141.2 = true then ((ranges_Check.f k (([(⟨2, 1, 0⟩ : S44)] : List (S44)))).bind fun t146 => (some (t146 == 3))) else (some false)) else (some false)) else (some false)) else (some false)) else (some false)) else (some false))))) = some r := by first | (rw [hy132]; with_reducible exact H) | (have H2_ := (Option.bind_some _ _).symm.trans H; rw [hy132]; with_reducible exact H2_) | (have H2_ := (Option.bind_some _ _).symm.trans H; with_reducible exact H2_) | with_reducible exact H | (rw [hy132]; exact H) | exact H
  have Ny132 := Aside0.mk hy132
  clear hy132
  replace H := Option.bind_eq_some_iff.mp H
  obtain ⟨⟨t135, t136⟩, A10, H⟩ := H
  replace H : ((ranges_Scalar.f k t135 2).bind fun bt139 => ((ranges_Code.f k t135 99).bind fun bt141 => (if t136 = 0 then (if (t135.length : Int) = 2 then (if bt139.1 = 98 then (if bt139.2 = true then (if bt141.1 = 4 then (if bt141.2 = true then ((ranges_Check.f k (([(⟨2, 1, 0⟩ : S44)] : List (S44)))).bind fun t146 => (some (t146 == 3))) else (some false)) else (some false)) else (some false)) else (some false)) else (some false)) else (some false)))) = some r := H
  have A1 := Aside0.mk A10
  clear A10
  replace H := Option.bind_eq_some_iff.mp H
  obtain ⟨⟨t139, t140⟩, A20, H⟩ := H
  replace H : ((ranges_Code.f k t135 99).bind fun bt141 => (if t136 = 0 then (if (t135.length : Int) = 2 then (if t139 = 98 then (if t140 = true then (if bt141.1 = 4 then (if bt141.2 = true then ((ranges_Check.f k (([(⟨2, 1, 0⟩ : S44)] : List (S44)))).bind fun t146 => (some (t146 == 3))) else (some false)) else (some false)) else (some false)) else (some false)) else (some false)) else (some false))) = some r := H
  have A2 := Aside0.mk A20
  clear A20
  replace H := Option.bind_eq_some_iff.mp H
  obtain ⟨⟨t141, t142⟩, A30, H⟩ := H
  replace H : (if t136 = 0 then (if (t135.length : Int) = 2 then (if t139 = 98 then (if t140 = true then (if t141 = 4 then (if t142 = true then ((ranges_Check.f k (([(⟨2, 1, 0⟩ : S44)] : List (S44)))).bind fun t146 => (some (t146 == 3))) else (some false)) else (some false)) else (some false)) else (some false)) else (some false)) else (some false)) = some r := H
  have A3 := Aside0.mk A30
  clear A30
  by_cases c4 : t136 = 0
  · rw [if_pos c4] at H
    have c4b0 : (t136 == 0) = true := beq_iff_eq.mpr c4
    have c4b1 : (t136 != 0) = false := bne_eq_false_iff_eq.mpr c4
    clear c4
    by_cases c5 : (t135.length : Int) = 2
    · rw [if_pos c5] at H
      have c5b0 : ((t135.length : Int) == 2) = true := beq_iff_eq.mpr c5
      have c5b1 : ((t135.length : Int) != 2) = false := bne_eq_false_iff_eq.mpr c5
      clear c5
      by_cases c6 : t139 = 98
      · rw [if_pos c6] at H
        have c6b0 : (t139 == 98) = true := beq_iff_eq.mpr c6
        have c6b1 : (t139 != 98) = false := bne_eq_false_iff_eq.mpr c6
        clear c6
        by_cases c7 : t140 = true
        · subst c7
          have H1 : (if t141 = 4 then (if t142 = true then ((ranges_Check.f k (([(⟨2, 1, 0⟩ : S44)] : List (S44)))).bind fun t146 => (some (t146 == 3))) else (some false)) else (some false)) = some r := by rw [if_pos rfl] at H; exact H
          clear H
          have H := H1
          clear H1
          by_cases c8 : t141 = 4
          · rw [if_pos c8] at H
            have c8b0 : (t141 == 4) = true := beq_iff_eq.mpr c8
            have c8b1 : (t141 != 4) = false := bne_eq_false_iff_eq.mpr c8
            clear c8
            by_cases c9 : t142 = true
            · subst c9
              have H1 : ((ranges_Check.f k (([(⟨2, 1, 0⟩ : S44)] : List (S44)))).bind fun t146 => (some (t146 == 3))) = some r := by rw [if_pos rfl] at H; exact H
              clear H
              have H := H1
              clear H1
              obtain ⟨y143, hy143⟩ : ∃ y_ : List (S44), y_ = (([(⟨2, 1, 0⟩ : S44)] : List (S44))) := ⟨_, rfl⟩
              replace H : ((ranges_Check.f k y143).bind fun t146 => (some (t146 == 3))) = some r := by first | (rw [hy143]; with_reducible exact H) | (have H2_ := (Option.bind_some _ _).symm.trans H; rw [hy143]; with_reducible exact H2_) | (have H2_ := (Option.bind_some _ _).symm.trans H; with_reducible exact H2_) | with_reducible exact H | (rw [hy143]; exact H) | exact H
              have Ny143 := Aside0.mk hy143
              clear hy143
              replace H := Option.bind_eq_some_iff.mp H
              obtain ⟨t146, A100, H⟩ := H
              replace H : (some (t146 == 3)) = some r := H
              have A10 := Aside0.mk A100
              clear A100
              obtain rfl := Option.some.inj H
              go_enter Try.func20, Try.ntmps20
              go_wp2_with (first | ((with_reducible refine gate_dst (N := 11) rfl ?_); (try (refine gate_guard (by rfl) ?_; dsimp only)); refine Kd.R_lit k41 _ 41 ?hg (N := 11) ?hd (xs := ([(⟨1, 97⟩ : S41), (⟨2, 98⟩ : S41), (⟨4, 99⟩ : S41)] : List (S41))) (inner := [.int .i64 1, .int .i32 97, .int .i64 2, .int .i32 98, .int .i64 4, .int .i32 99]) (ok := fun _ => True) (okp := fun _ => True) ?hr ?hp (fun _ hk => hk) trivial (Below.refl _ _) (Nat.le_refl _) (by simp) ?_; (case hd => rfl); (case hg => rfl); (case hr => first | (go_simp; done) | (go_simp; rfl)); (case hp => exact (Reps.c2 (show Kd.M k41 _ _ _ (⟨1, 97⟩ : S41) [.int .i64 1, .int .i32 97] from (k41_mkM _ _ _ (⟨1, 97⟩ : S41) )) (Reps.c2 (show Kd.M k41 _ _ _ (⟨2, 98⟩ : S41) [.int .i64 2, .int .i32 98] from (k41_mkM _ _ _ (⟨2, 98⟩ : S41) )) (Reps.c2 (show Kd.M k41 _ _ _ (⟨4, 99⟩ : S41) [.int .i64 4, .int .i32 99] from (k41_mkM _ _ _ (⟨4, 99⟩ : S41) )) (Reps.none _ _))))); intro v133 w11 ho12 hb hg_ hnew_; clear hg_ hnew_; (first | rw [← Ny132.out] at ho12 | (simp only [Int.reduceToNat] at ho12; rw [← Ny132.out] at ho12)); have n0_ := Aside0.mk (Kd.R_lower ho12 (below_size (by repeat (first | (with_reducible first | exact HB.out | apply below_alloc | apply pw_below_drewN | apply below_drew1) | exact HB.out)))); have n1_ := Aside0.mk (below_step (by repeat (first | (with_reducible first | exact HB.out | apply below_alloc | apply pw_below_drewN | apply below_drew1) | exact HB.out)) hb); clear HB; have HO134 := n0_; have HB := n1_; clear n0_ n1_; clear hb ho12; obtain ⟨Ao13, co13, eo13⟩ := Kd.R_slice HO134.out; subst eo13) | ((with_reducible refine gate_callee (f := 8) rfl ?_); refine goesL_ (some 12) rfl rfl Try.func8 (by kernel_rfl) rfl #[.slice Ao13 y132.length co13] rfl (by (try simp only [List.map_toArray, List.map_cons, List.map_nil]); first | done | rfl | (simp only [List.length_drop, List.length_take]; rfl)) ?_; (with_reducible refine (ranges_Pack.calls k _ _ y132 t135 t136 _ ?side1 ?side2 A1.out).mono ?_); (case side1 => repeat (first | exact (Kd.R_reads' HO134.out).2.2 | (with_reducible refine Kd.C_alloc ?_ _) | (with_reducible refine Kd.C_drewN ?_ _) | (with_reducible refine Kd.C_drew ?_))); (case side2 => exact (Kd.R_reads' HO134.out).2.1); rintro e w14 ⟨v137, rfl, ho0, hb⟩; refine ⟨_, rfl, ?_⟩; have n0_ := Aside0.mk (Kd.R_below (by (with_reducible repeat (first | apply Kd.R_alloc | apply Kd.R_drewN | apply Kd.R_drew)); exact HO134.out) hb); have n1_ := Aside0.mk (Kd.R_lower ho0 (below_size (by repeat (first | (with_reducible first | exact HB.out | apply below_alloc | apply pw_below_drewN | apply below_drew1) | exact HB.out)))); have n2_ := Aside0.mk (below_step (by repeat (first | (with_reducible first | exact HB.out | apply below_alloc | apply pw_below_drewN | apply below_drew1) | exact HB.out)) hb); clear HO134; clear HB; have HO134 := n0_; have HO138 := n1_; have HB := n2_; clear n0_ n1_ n2_; (try clear hb); (try clear hb2); (try clear hk); (try clear hi); (try clear ho0); obtain ⟨Ao15, co15, eo15⟩ := Kd.R_slice HO138.out; subst eo15) | ((with_reducible refine gate_callee (f := 16) rfl ?_); refine goesL_ (some 17) rfl rfl Try.func16 (by kernel_rfl) rfl #[.slice Ao15 t135.length co15, .int .i64 2] rfl (by (try simp only [List.map_toArray, List.map_cons, List.map_nil]); first | done | rfl | (simp only [List.length_drop, List.length_take]; rfl)) ?_; (with_reducible refine (ranges_Scalar.calls k _ _ t135 2 t139 true _ ?side1 ?side2 A2.out).mono ?_); (case side1 => repeat (first | exact (Kd.R_reads' HO138.out).2.2 | (with_reducible refine Kd.C_alloc ?_ _) | (with_reducible refine Kd.C_drewN ?_ _) | (with_reducible refine Kd.C_drew ?_))); (case side2 => exact (Kd.R_reads' HO138.out).2.1); rintro e w16 ⟨rfl, hb⟩; refine ⟨_, rfl, ?_⟩; have n0_ := Aside0.mk (Kd.R_below (by (with_reducible repeat (first | apply Kd.R_alloc | apply Kd.R_drewN | apply Kd.R_drew)); exact HO134.out) hb); have n1_ := Aside0.mk (Kd.R_below (by (with_reducible repeat (first | apply Kd.R_alloc | apply Kd.R_drewN | apply Kd.R_drew)); exact HO138.out) hb); have n2_ := Aside0.mk (below_step (by repeat (first | (with_reducible first | exact HB.out | apply below_alloc | apply pw_below_drewN | apply below_drew1) | exact HB.out)) hb); clear HO134; clear HO138; clear HB; have HO134 := n0_; have HO138 := n1_; have HB := n2_; clear n0_ n1_ n2_; (try clear hb); (try clear hb2); (try clear hk); (try clear hi)) | ((with_reducible refine gate_callee (f := 18) rfl ?_); refine goesL_ (some 22) rfl rfl Try.func18 (by kernel_rfl) rfl #[.slice Ao15 t135.length co15, .int .i32 99] rfl (by (try simp only [List.map_toArray, List.map_cons, List.map_nil]); first | done | rfl | (simp only [List.length_drop, List.length_take]; rfl)) ?_; (with_reducible refine (ranges_Code.calls k _ _ t135 99 t141 true _ ?side1 ?side2 A3.out).mono ?_); (case side1 => repeat (first | exact (Kd.R_reads' HO138.out).2.2 | (with_reducible refine Kd.C_alloc ?_ _) | (with_reducible refine Kd.C_drewN ?_ _) | (with_reducible refine Kd.C_drew ?_))); (case side2 => exact (Kd.R_reads' HO138.out).2.1); rintro e w17 ⟨rfl, hb⟩; refine ⟨_, rfl, ?_⟩; have n0_ := Aside0.mk (Kd.R_below (by (with_reducible repeat (first | apply Kd.R_alloc | apply Kd.R_drewN | apply Kd.R_drew)); exact HO134.out) hb); have n1_ := Aside0.mk (Kd.R_below (by (with_reducible repeat (first | apply Kd.R_alloc | apply Kd.R_drewN | apply Kd.R_drew)); exact HO138.out) hb); have n2_ := Aside0.mk (below_step (by repeat (first | (with_reducible first | exact HB.out | apply below_alloc | apply pw_below_drewN | apply below_drew1) | exact HB.out)) hb); clear HO134; clear HO138; clear HB; have HO134 := n0_; have HO138 := n1_; have HB := n2_; clear n0_ n1_ n2_; (try clear hb); (try clear hb2); (try clear hk); (try clear hi)) | ((with_reducible refine gate_dst (N := 48) rfl ?_); (try (refine gate_guard (by rfl) ?_; dsimp only)); refine Kd.R_lit k44 _ 44 ?hg (N := 48) ?hd (xs := ([(⟨2, 1, 0⟩ : S44)] : List (S44))) (inner := [.int .i64 2, .int .i64 1, .int .i32 0]) (ok := fun _ => True) (okp := fun _ => True) ?hr ?hp (fun _ hk => hk) trivial (Below.refl _ _) (Nat.le_refl _) (by simp) ?_; (case hd => rfl); (case hg => rfl); (case hr => first | (go_simp; done) | (go_simp; rfl)); (case hp => exact (Reps.c3 (show Kd.M k44 _ _ _ (⟨2, 1, 0⟩ : S44) [.int .i64 2, .int .i64 1, .int .i32 0] from (k44_mkM _ _ _ (⟨2, 1, 0⟩ : S44) )) (Reps.none _ _))); intro v144 w18 ho19 hb hg_ hnew_; clear hg_ hnew_; (first | rw [← Ny143.out] at ho19 | (simp only [Int.reduceToNat] at ho19; rw [← Ny143.out] at ho19)); have n0_ := Aside0.mk (Kd.R_below (by (with_reducible repeat (first | apply Kd.R_alloc | apply Kd.R_drewN | apply Kd.R_drew)); exact HO134.out) hb); have n1_ := Aside0.mk (Kd.R_elder' (by (with_reducible repeat (first | apply Kd.R_alloc | apply Kd.R_drewN | apply Kd.R_drew)); exact HO138.out) (Kd.R_base ho19) hb); have n2_ := Aside0.mk (Kd.R_lower (Kd.R_new' ho19 (Kd.R_lt (by (with_reducible repeat (first | apply Kd.R_alloc | apply Kd.R_drewN | apply Kd.R_drew)); exact HO138.out))) (below_size (by repeat (first | (with_reducible first | exact HB.out | apply below_alloc | apply pw_below_drewN | apply below_drew1) | exact HB.out)))); have n3_ := Aside0.mk (below_step (by repeat (first | (with_reducible first | exact HB.out | apply below_alloc | apply pw_below_drewN | apply below_drew1) | exact HB.out)) hb); clear HO134; clear HO138; clear HB; have HO134 := n0_; have HO138 := n1_; have HO145 := n2_; have HB := n3_; clear n0_ n1_ n2_ n3_; clear hb ho19; obtain ⟨Ao20, co20, eo20⟩ := Kd.R_slice HO145.out; subst eo20) | (go_at_call 13; (with_reducible refine (ranges_Check.calls k _ _ y143 t146 _ ?side1 ?side2 A10.out).mono ?_); (case side1 => repeat (first | exact (Kd.R_reads' HO145.out).2.2 | (with_reducible refine Kd.C_alloc ?_ _) | (with_reducible refine Kd.C_drewN ?_ _) | (with_reducible refine Kd.C_drew ?_))); (case side2 => exact (Kd.R_reads' HO145.out).2.1); rintro e w21 ⟨rfl, hb⟩; have n0_ := Aside0.mk (Kd.R_below (by (with_reducible repeat (first | apply Kd.R_alloc | apply Kd.R_drewN | apply Kd.R_drew)); exact HO134.out) hb); have n1_ := Aside0.mk (Kd.R_below (by (with_reducible repeat (first | apply Kd.R_alloc | apply Kd.R_drewN | apply Kd.R_drew)); exact HO138.out) hb); have n2_ := Aside0.mk (Kd.R_below (by (with_reducible repeat (first | apply Kd.R_alloc | apply Kd.R_drewN | apply Kd.R_drew)); exact HO145.out) hb); have n3_ := Aside0.mk (below_step (by repeat (first | (with_reducible first | exact HB.out | apply below_alloc | apply pw_below_drewN | apply below_drew1) | exact HB.out)) hb); clear HO134; clear HO138; clear HO145; clear HB; have HO134 := n0_; have HO138 := n1_; have HO145 := n2_; have HB := n3_; clear n0_ n1_ n2_ n3_; (try clear hb); (try clear hb2); (try clear hk); (try clear hi)))
              go_ret
              exact ⟨by first | rfl | (simp [errW_none, errW_some] <;> rfl) | (simp [*, errW_none, errW_some] <;> rfl), by repeat (first | (with_reducible first | exact HB.out | apply below_alloc | apply pw_below_drewN | apply below_drew1) | exact HB.out)⟩
            · replace c9 := Bool.eq_false_iff.mpr c9
              subst c9
              have H1 : (some false) = some r := by rw [if_neg (show ¬ (false = true) by decide)] at H; exact H
              clear H
              have H := H1
              clear H1
              obtain rfl := Option.some.inj H
              go_enter Try.func20, Try.ntmps20
              go_wp2_with (first | ((with_reducible refine gate_dst (N := 11) rfl ?_); (try (refine gate_guard (by rfl) ?_; dsimp only)); refine Kd.R_lit k41 _ 41 ?hg (N := 11) ?hd (xs := ([(⟨1, 97⟩ : S41), (⟨2, 98⟩ : S41), (⟨4, 99⟩ : S41)] : List (S41))) (inner := [.int .i64 1, .int .i32 97, .int .i64 2, .int .i32 98, .int .i64 4, .int .i32 99]) (ok := fun _ => True) (okp := fun _ => True) ?hr ?hp (fun _ hk => hk) trivial (Below.refl _ _) (Nat.le_refl _) (by simp) ?_; (case hd => rfl); (case hg => rfl); (case hr => first | (go_simp; done) | (go_simp; rfl)); (case hp => exact (Reps.c2 (show Kd.M k41 _ _ _ (⟨1, 97⟩ : S41) [.int .i64 1, .int .i32 97] from (k41_mkM _ _ _ (⟨1, 97⟩ : S41) )) (Reps.c2 (show Kd.M k41 _ _ _ (⟨2, 98⟩ : S41) [.int .i64 2, .int .i32 98] from (k41_mkM _ _ _ (⟨2, 98⟩ : S41) )) (Reps.c2 (show Kd.M k41 _ _ _ (⟨4, 99⟩ : S41) [.int .i64 4, .int .i32 99] from (k41_mkM _ _ _ (⟨4, 99⟩ : S41) )) (Reps.none _ _))))); intro v133 w22 ho23 hb hg_ hnew_; clear hg_ hnew_; (first | rw [← Ny132.out] at ho23 | (simp only [Int.reduceToNat] at ho23; rw [← Ny132.out] at ho23)); have n0_ := Aside0.mk (Kd.R_lower ho23 (below_size (by repeat (first | (with_reducible first | exact HB.out | apply below_alloc | apply pw_below_drewN | apply below_drew1) | exact HB.out)))); have n1_ := Aside0.mk (below_step (by repeat (first | (with_reducible first | exact HB.out | apply below_alloc | apply pw_below_drewN | apply below_drew1) | exact HB.out)) hb); clear HB; have HO134 := n0_; have HB := n1_; clear n0_ n1_; clear hb ho23; obtain ⟨Ao24, co24, eo24⟩ := Kd.R_slice HO134.out; subst eo24) | ((with_reducible refine gate_callee (f := 8) rfl ?_); refine goesL_ (some 12) rfl rfl Try.func8 (by kernel_rfl) rfl #[.slice Ao24 y132.length co24] rfl (by (try simp only [List.map_toArray, List.map_cons, List.map_nil]); first | done | rfl | (simp only [List.length_drop, List.length_take]; rfl)) ?_; (with_reducible refine (ranges_Pack.calls k _ _ y132 t135 t136 _ ?side1 ?side2 A1.out).mono ?_); (case side1 => repeat (first | exact (Kd.R_reads' HO134.out).2.2 | (with_reducible refine Kd.C_alloc ?_ _) | (with_reducible refine Kd.C_drewN ?_ _) | (with_reducible refine Kd.C_drew ?_))); (case side2 => exact (Kd.R_reads' HO134.out).2.1); rintro e w25 ⟨v137, rfl, ho0, hb⟩; refine ⟨_, rfl, ?_⟩; have n0_ := Aside0.mk (Kd.R_below (by (with_reducible repeat (first | apply Kd.R_alloc | apply Kd.R_drewN | apply Kd.R_drew)); exact HO134.out) hb); have n1_ := Aside0.mk (Kd.R_lower ho0 (below_size (by repeat (first | (with_reducible first | exact HB.out | apply below_alloc | apply pw_below_drewN | apply below_drew1) | exact HB.out)))); have n2_ := Aside0.mk (below_step (by repeat (first | (with_reducible first | exact HB.out | apply below_alloc | apply pw_below_drewN | apply below_drew1) | exact HB.out)) hb); clear HO134; clear HB; have HO134 := n0_; have HO138 := n1_; have HB := n2_; clear n0_ n1_ n2_; (try clear hb); (try clear hb2); (try clear hk); (try clear hi); (try clear ho0); obtain ⟨Ao26, co26, eo26⟩ := Kd.R_slice HO138.out; subst eo26) | ((with_reducible refine gate_callee (f := 16) rfl ?_); refine goesL_ (some 17) rfl rfl Try.func16 (by kernel_rfl) rfl #[.slice Ao26 t135.length co26, .int .i64 2] rfl (by (try simp only [List.map_toArray, List.map_cons, List.map_nil]); first | done | rfl | (simp only [List.length_drop, List.length_take]; rfl)) ?_; (with_reducible refine (ranges_Scalar.calls k _ _ t135 2 t139 true _ ?side1 ?side2 A2.out).mono ?_); (case side1 => repeat (first | exact (Kd.R_reads' HO138.out).2.2 | (with_reducible refine Kd.C_alloc ?_ _) | (with_reducible refine Kd.C_drewN ?_ _) | (with_reducible refine Kd.C_drew ?_))); (case side2 => exact (Kd.R_reads' HO138.out).2.1); rintro e w27 ⟨rfl, hb⟩; refine ⟨_, rfl, ?_⟩; have n0_ := Aside0.mk (Kd.R_below (by (with_reducible repeat (first | apply Kd.R_alloc | apply Kd.R_drewN | apply Kd.R_drew)); exact HO134.out) hb); have n1_ := Aside0.mk (Kd.R_below (by (with_reducible repeat (first | apply Kd.R_alloc | apply Kd.R_drewN | apply Kd.R_drew)); exact HO138.out) hb); have n2_ := Aside0.mk (below_step (by repeat (first | (with_reducible first | exact HB.out | apply below_alloc | apply pw_below_drewN | apply below_drew1) | exact HB.out)) hb); clear HO134; clear HO138; clear HB; have HO134 := n0_; have HO138 := n1_; have HB := n2_; clear n0_ n1_ n2_; (try clear hb); (try clear hb2); (try clear hk); (try clear hi)) | ((with_reducible refine gate_callee (f := 18) rfl ?_); refine goesL_ (some 22) rfl rfl Try.func18 (by kernel_rfl) rfl #[.slice Ao26 t135.length co26, .int .i32 99] rfl (by (try simp only [List.map_toArray, List.map_cons, List.map_nil]); first | done | rfl | (simp only [List.length_drop, List.length_take]; rfl)) ?_; (with_reducible refine (ranges_Code.calls k _ _ t135 99 t141 false _ ?side1 ?side2 A3.out).mono ?_); (case side1 => repeat (first | exact (Kd.R_reads' HO138.out).2.2 | (with_reducible refine Kd.C_alloc ?_ _) | (with_reducible refine Kd.C_drewN ?_ _) | (with_reducible refine Kd.C_drew ?_))); (case side2 => exact (Kd.R_reads' HO138.out).2.1); rintro e w28 ⟨rfl, hb⟩; refine ⟨_, rfl, ?_⟩; have n0_ := Aside0.mk (Kd.R_below (by (with_reducible repeat (first | apply Kd.R_alloc | apply Kd.R_drewN | apply Kd.R_drew)); exact HO134.out) hb); have n1_ := Aside0.mk (Kd.R_below (by (with_reducible repeat (first | apply Kd.R_alloc | apply Kd.R_drewN | apply Kd.R_drew)); exact HO138.out) hb); have n2_ := Aside0.mk (below_step (by repeat (first | (with_reducible first | exact HB.out | apply below_alloc | apply pw_below_drewN | apply below_drew1) | exact HB.out)) hb); clear HO134; clear HO138; clear HB; have HO134 := n0_; have HO138 := n1_; have HB := n2_; clear n0_ n1_ n2_; (try clear hb); (try clear hb2); (try clear hk); (try clear hi)))
              go_ret
              exact ⟨by first | rfl | (simp [errW_none, errW_some] <;> rfl) | (simp [*, errW_none, errW_some] <;> rfl), by repeat (first | (with_reducible first | exact HB.out | apply below_alloc | apply pw_below_drewN | apply below_drew1) | exact HB.out)⟩
          · rw [if_neg c8] at H
            have c8b0 : (t141 == 4) = false := beq_eq_false_iff_ne.mpr c8
            have c8b1 : (t141 != 4) = true := bne_iff_ne.mpr c8
            obtain rfl := Option.some.inj H
            go_enter Try.func20, Try.ntmps20
            go_wp2_with (first | ((with_reducible refine gate_dst (N := 11) rfl ?_); (try (refine gate_guard (by rfl) ?_; dsimp only)); refine Kd.R_lit k41 _ 41 ?hg (N := 11) ?hd (xs := ([(⟨1, 97⟩ : S41), (⟨2, 98⟩ : S41), (⟨4, 99⟩ : S41)] : List (S41))) (inner := [.int .i64 1, .int .i32 97, .int .i64 2, .int .i32 98, .int .i64 4, .int .i32 99]) (ok := fun _ => True) (okp := fun _ => True) ?hr ?hp (fun _ hk => hk) trivial (Below.refl _ _) (Nat.le_refl _) (by simp) ?_; (case hd => rfl); (case hg => rfl); (case hr => first | (go_simp; done) | (go_simp; rfl)); (case hp => exact (Reps.c2 (show Kd.M k41 _ _ _ (⟨1, 97⟩ : S41) [.int .i64 1, .int .i32 97] from (k41_mkM _ _ _ (⟨1, 97⟩ : S41) )) (Reps.c2 (show Kd.M k41 _ _ _ (⟨2, 98⟩ : S41) [.int .i64 2, .int .i32 98] from (k41_mkM _ _ _ (⟨2, 98⟩ : S41) )) (Reps.c2 (show Kd.M k41 _ _ _ (⟨4, 99⟩ : S41) [.int .i64 4, .int .i32 99] from (k41_mkM _ _ _ (⟨4, 99⟩ : S41) )) (Reps.none _ _))))); intro v133 w29 ho30 hb hg_ hnew_; clear hg_ hnew_; (first | rw [← Ny132.out] at ho30 | (simp only [Int.reduceToNat] at ho30; rw [← Ny132.out] at ho30)); have n0_ := Aside0.mk (Kd.R_lower ho30 (below_size (by repeat (first | (with_reducible first | exact HB.out | apply below_alloc | apply pw_below_drewN | apply below_drew1) | exact HB.out)))); have n1_ := Aside0.mk (below_step (by repeat (first | (with_reducible first | exact HB.out | apply below_alloc | apply pw_below_drewN | apply below_drew1) | exact HB.out)) hb); clear HB; have HO134 := n0_; have HB := n1_; clear n0_ n1_; clear hb ho30; obtain ⟨Ao31, co31, eo31⟩ := Kd.R_slice HO134.out; subst eo31) | ((with_reducible refine gate_callee (f := 8) rfl ?_); refine goesL_ (some 12) rfl rfl Try.func8 (by kernel_rfl) rfl #[.slice Ao31 y132.length co31] rfl (by (try simp only [List.map_toArray, List.map_cons, List.map_nil]); first | done | rfl | (simp only [List.length_drop, List.length_take]; rfl)) ?_; (with_reducible refine (ranges_Pack.calls k _ _ y132 t135 t136 _ ?side1 ?side2 A1.out).mono ?_); (case side1 => repeat (first | exact (Kd.R_reads' HO134.out).2.2 | (with_reducible refine Kd.C_alloc ?_ _) | (with_reducible refine Kd.C_drewN ?_ _) | (with_reducible refine Kd.C_drew ?_))); (case side2 => exact (Kd.R_reads' HO134.out).2.1); rintro e w32 ⟨v137, rfl, ho0, hb⟩; refine ⟨_, rfl, ?_⟩; have n0_ := Aside0.mk (Kd.R_below (by (with_reducible repeat (first | apply Kd.R_alloc | apply Kd.R_drewN | apply Kd.R_drew)); exact HO134.out) hb); have n1_ := Aside0.mk (Kd.R_lower ho0 (below_size (by repeat (first | (with_reducible first | exact HB.out | apply below_alloc | apply pw_below_drewN | apply below_drew1) | exact HB.out)))); have n2_ := Aside0.mk (below_step (by repeat (first | (with_reducible first | exact HB.out | apply below_alloc | apply pw_below_drewN | apply below_drew1) | exact HB.out)) hb); clear HO134; clear HB; have HO134 := n0_; have HO138 := n1_; have HB := n2_; clear n0_ n1_ n2_; (try clear hb); (try clear hb2); (try clear hk); (try clear hi); (try clear ho0); obtain ⟨Ao33, co33, eo33⟩ := Kd.R_slice HO138.out; subst eo33) | ((with_reducible refine gate_callee (f := 16) rfl ?_); refine goesL_ (some 17) rfl rfl Try.func16 (by kernel_rfl) rfl #[.slice Ao33 t135.length co33, .int .i64 2] rfl (by (try simp only [List.map_toArray, List.map_cons, List.map_nil]); first | done | rfl | (simp only [List.length_drop, List.length_take]; rfl)) ?_; (with_reducible refine (ranges_Scalar.calls k _ _ t135 2 t139 true _ ?side1 ?side2 A2.out).mono ?_); (case side1 => repeat (first | exact (Kd.R_reads' HO138.out).2.2 | (with_reducible refine Kd.C_alloc ?_ _) | (with_reducible refine Kd.C_drewN ?_ _) | (with_reducible refine Kd.C_drew ?_))); (case side2 => exact (Kd.R_reads' HO138.out).2.1); rintro e w34 ⟨rfl, hb⟩; refine ⟨_, rfl, ?_⟩; have n0_ := Aside0.mk (Kd.R_below (by (with_reducible repeat (first | apply Kd.R_alloc | apply Kd.R_drewN | apply Kd.R_drew)); exact HO134.out) hb); have n1_ := Aside0.mk (Kd.R_below (by (with_reducible repeat (first | apply Kd.R_alloc | apply Kd.R_drewN | apply Kd.R_drew)); exact HO138.out) hb); have n2_ := Aside0.mk (below_step (by repeat (first | (with_reducible first | exact HB.out | apply below_alloc | apply pw_below_drewN | apply below_drew1) | exact HB.out)) hb); clear HO134; clear HO138; clear HB; have HO134 := n0_; have HO138 := n1_; have HB := n2_; clear n0_ n1_ n2_; (try clear hb); (try clear hb2); (try clear hk); (try clear hi)) | ((with_reducible refine gate_callee (f := 18) rfl ?_); refine goesL_ (some 22) rfl rfl Try.func18 (by kernel_rfl) rfl #[.slice Ao33 t135.length co33, .int .i32 99] rfl (by (try simp only [List.map_toArray, List.map_cons, List.map_nil]); first | done | rfl | (simp only [List.length_drop, List.length_take]; rfl)) ?_; (with_reducible refine (ranges_Code.calls k _ _ t135 99 t141 t142 _ ?side1 ?side2 A3.out).mono ?_); (case side1 => repeat (first | exact (Kd.R_reads' HO138.out).2.2 | (with_reducible refine Kd.C_alloc ?_ _) | (with_reducible refine Kd.C_drewN ?_ _) | (with_reducible refine Kd.C_drew ?_))); (case side2 => exact (Kd.R_reads' HO138.out).2.1); rintro e w35 ⟨rfl, hb⟩; refine ⟨_, rfl, ?_⟩; have n0_ := Aside0.mk (Kd.R_below (by (with_reducible repeat (first | apply Kd.R_alloc | apply Kd.R_drewN | apply Kd.R_drew)); exact HO134.out) hb); have n1_ := Aside0.mk (Kd.R_below (by (with_reducible repeat (first | apply Kd.R_alloc | apply Kd.R_drewN | apply Kd.R_drew)); exact HO138.out) hb); have n2_ := Aside0.mk (below_step (by repeat (first | (with_reducible first | exact HB.out | apply below_alloc | apply pw_below_drewN | apply below_drew1) | exact HB.out)) hb); clear HO134; clear HO138; clear HB; have HO134 := n0_; have HO138 := n1_; have HB := n2_; clear n0_ n1_ n2_; (try clear hb); (try clear hb2); (try clear hk); (try clear hi)))
            go_ret
            exact ⟨by first | rfl | (simp [errW_none, errW_some] <;> rfl) | (simp [*, errW_none, errW_some] <;> rfl), by repeat (first | (with_reducible first | exact HB.out | apply below_alloc | apply pw_below_drewN | apply below_drew1) | exact HB.out)⟩
        · replace c7 := Bool.eq_false_iff.mpr c7
          subst c7
          have H1 : (some false) = some r := by rw [if_neg (show ¬ (false = true) by decide)] at H; exact H
          clear H
          have H := H1
          clear H1
          obtain rfl := Option.some.inj H
          go_enter Try.func20, Try.ntmps20
          go_wp2_with (first | ((with_reducible refine gate_dst (N := 11) rfl ?_); (try (refine gate_guard (by rfl) ?_; dsimp only)); refine Kd.R_lit k41 _ 41 ?hg (N := 11) ?hd (xs := ([(⟨1, 97⟩ : S41), (⟨2, 98⟩ : S41), (⟨4, 99⟩ : S41)] : List (S41))) (inner := [.int .i64 1, .int .i32 97, .int .i64 2, .int .i32 98, .int .i64 4, .int .i32 99]) (ok := fun _ => True) (okp := fun _ => True) ?hr ?hp (fun _ hk => hk) trivial (Below.refl _ _) (Nat.le_refl _) (by simp) ?_; (case hd => rfl); (case hg => rfl); (case hr => first | (go_simp; done) | (go_simp; rfl)); (case hp => exact (Reps.c2 (show Kd.M k41 _ _ _ (⟨1, 97⟩ : S41) [.int .i64 1, .int .i32 97] from (k41_mkM _ _ _ (⟨1, 97⟩ : S41) )) (Reps.c2 (show Kd.M k41 _ _ _ (⟨2, 98⟩ : S41) [.int .i64 2, .int .i32 98] from (k41_mkM _ _ _ (⟨2, 98⟩ : S41) )) (Reps.c2 (show Kd.M k41 _ _ _ (⟨4, 99⟩ : S41) [.int .i64 4, .int .i32 99] from (k41_mkM _ _ _ (⟨4, 99⟩ : S41) )) (Reps.none _ _))))); intro v133 w36 ho37 hb hg_ hnew_; clear hg_ hnew_; (first | rw [← Ny132.out] at ho37 | (simp only [Int.reduceToNat] at ho37; rw [← Ny132.out] at ho37)); have n0_ := Aside0.mk (Kd.R_lower ho37 (below_size (by repeat (first | (with_reducible first | exact HB.out | apply below_alloc | apply pw_below_drewN | apply below_drew1) | exact HB.out)))); have n1_ := Aside0.mk (below_step (by repeat (first | (with_reducible first | exact HB.out | apply below_alloc | apply pw_below_drewN | apply below_drew1) | exact HB.out)) hb); clear HB; have HO134 := n0_; have HB := n1_; clear n0_ n1_; clear hb ho37; obtain ⟨Ao38, co38, eo38⟩ := Kd.R_slice HO134.out; subst eo38) | ((with_reducible refine gate_callee (f := 8) rfl ?_); refine goesL_ (some 12) rfl rfl Try.func8 (by kernel_rfl) rfl #[.slice Ao38 y132.length co38] rfl (by (try simp only [List.map_toArray, List.map_cons, List.map_nil]); first | done | rfl | (simp only [List.length_drop, List.length_take]; rfl)) ?_; (with_reducible refine (ranges_Pack.calls k _ _ y132 t135 t136 _ ?side1 ?side2 A1.out).mono ?_); (case side1 => repeat (first | exact (Kd.R_reads' HO134.out).2.2 | (with_reducible refine Kd.C_alloc ?_ _) | (with_reducible refine Kd.C_drewN ?_ _) | (with_reducible refine Kd.C_drew ?_))); (case side2 => exact (Kd.R_reads' HO134.out).2.1); rintro e w39 ⟨v137, rfl, ho0, hb⟩; refine ⟨_, rfl, ?_⟩; have n0_ := Aside0.mk (Kd.R_below (by (with_reducible repeat (first | apply Kd.R_alloc | apply Kd.R_drewN | apply Kd.R_drew)); exact HO134.out) hb); have n1_ := Aside0.mk (Kd.R_lower ho0 (below_size (by repeat (first | (with_reducible first | exact HB.out | apply below_alloc | apply pw_below_drewN | apply below_drew1) | exact HB.out)))); have n2_ := Aside0.mk (below_step (by repeat (first | (with_reducible first | exact HB.out | apply below_alloc | apply pw_below_drewN | apply below_drew1) | exact HB.out)) hb); clear HO134; clear HB; have HO134 := n0_; have HO138 := n1_; have HB := n2_; clear n0_ n1_ n2_; (try clear hb); (try clear hb2); (try clear hk); (try clear hi); (try clear ho0); obtain ⟨Ao40, co40, eo40⟩ := Kd.R_slice HO138.out; subst eo40) | ((with_reducible refine gate_callee (f := 16) rfl ?_); refine goesL_ (some 17) rfl rfl Try.func16 (by kernel_rfl) rfl #[.slice Ao40 t135.length co40, .int .i64 2] rfl (by (try simp only [List.map_toArray, List.map_cons, List.map_nil]); first | done | rfl | (simp only [List.length_drop, List.length_take]; rfl)) ?_; (with_reducible refine (ranges_Scalar.calls k _ _ t135 2 t139 false _ ?side1 ?side2 A2.out).mono ?_); (case side1 => repeat (first | exact (Kd.R_reads' HO138.out).2.2 | (with_reducible refine Kd.C_alloc ?_ _) | (with_reducible refine Kd.C_drewN ?_ _) | (with_reducible refine Kd.C_drew ?_))); (case side2 => exact (Kd.R_reads' HO138.out).2.1); rintro e w41 ⟨rfl, hb⟩; refine ⟨_, rfl, ?_⟩; have n0_ := Aside0.mk (Kd.R_below (by (with_reducible repeat (first | apply Kd.R_alloc | apply Kd.R_drewN | apply Kd.R_drew)); exact HO134.out) hb); have n1_ := Aside0.mk (Kd.R_below (by (with_reducible repeat (first | apply Kd.R_alloc | apply Kd.R_drewN | apply Kd.R_drew)); exact HO138.out) hb); have n2_ := Aside0.mk (below_step (by repeat (first | (with_reducible first | exact HB.out | apply below_alloc | apply pw_below_drewN | apply below_drew1) | exact HB.out)) hb); clear HO134; clear HO138; clear HB; have HO134 := n0_; have HO138 := n1_; have HB := n2_; clear n0_ n1_ n2_; (try clear hb); (try clear hb2); (try clear hk); (try clear hi)) | ((with_reducible refine gate_callee (f := 18) rfl ?_); refine goesL_ (some 22) rfl rfl Try.func18 (by kernel_rfl) rfl #[.slice Ao40 t135.length co40, .int .i32 99] rfl (by (try simp only [List.map_toArray, List.map_cons, List.map_nil]); first | done | rfl | (simp only [List.length_drop, List.length_take]; rfl)) ?_; (with_reducible refine (ranges_Code.calls k _ _ t135 99 t141 t142 _ ?side1 ?side2 A3.out).mono ?_); (case side1 => repeat (first | exact (Kd.R_reads' HO138.out).2.2 | (with_reducible refine Kd.C_alloc ?_ _) | (with_reducible refine Kd.C_drewN ?_ _) | (with_reducible refine Kd.C_drew ?_))); (case side2 => exact (Kd.R_reads' HO138.out).2.1); rintro e w42 ⟨rfl, hb⟩; refine ⟨_, rfl, ?_⟩; have n0_ := Aside0.mk (Kd.R_below (by (with_reducible repeat (first | apply Kd.R_alloc | apply Kd.R_drewN | apply Kd.R_drew)); exact HO134.out) hb); have n1_ := Aside0.mk (Kd.R_below (by (with_reducible repeat (first | apply Kd.R_alloc | apply Kd.R_drewN | apply Kd.R_drew)); exact HO138.out) hb); have n2_ := Aside0.mk (below_step (by repeat (first | (with_reducible first | exact HB.out | apply below_alloc | apply pw_below_drewN | apply below_drew1) | exact HB.out)) hb); clear HO134; clear HO138; clear HB; have HO134 := n0_; have HO138 := n1_; have HB := n2_; clear n0_ n1_ n2_; (try clear hb); (try clear hb2); (try clear hk); (try clear hi)))
          go_ret
          exact ⟨by first | rfl | (simp [errW_none, errW_some] <;> rfl) | (simp [*, errW_none, errW_some] <;> rfl), by repeat (first | (with_reducible first | exact HB.out | apply below_alloc | apply pw_below_drewN | apply below_drew1) | exact HB.out)⟩
      · rw [if_neg c6] at H
        have c6b0 : (t139 == 98) = false := beq_eq_false_iff_ne.mpr c6
        have c6b1 : (t139 != 98) = true := bne_iff_ne.mpr c6
        obtain rfl := Option.some.inj H
        go_enter Try.func20, Try.ntmps20
        go_wp2_with (first | ((with_reducible refine gate_dst (N := 11) rfl ?_); (try (refine gate_guard (by rfl) ?_; dsimp only)); refine Kd.R_lit k41 _ 41 ?hg (N := 11) ?hd (xs := ([(⟨1, 97⟩ : S41), (⟨2, 98⟩ : S41), (⟨4, 99⟩ : S41)] : List (S41))) (inner := [.int .i64 1, .int .i32 97, .int .i64 2, .int .i32 98, .int .i64 4, .int .i32 99]) (ok := fun _ => True) (okp := fun _ => True) ?hr ?hp (fun _ hk => hk) trivial (Below.refl _ _) (Nat.le_refl _) (by simp) ?_; (case hd => rfl); (case hg => rfl); (case hr => first | (go_simp; done) | (go_simp; rfl)); (case hp => exact (Reps.c2 (show Kd.M k41 _ _ _ (⟨1, 97⟩ : S41) [.int .i64 1, .int .i32 97] from (k41_mkM _ _ _ (⟨1, 97⟩ : S41) )) (Reps.c2 (show Kd.M k41 _ _ _ (⟨2, 98⟩ : S41) [.int .i64 2, .int .i32 98] from (k41_mkM _ _ _ (⟨2, 98⟩ : S41) )) (Reps.c2 (show Kd.M k41 _ _ _ (⟨4, 99⟩ : S41) [.int .i64 4, .int .i32 99] from (k41_mkM _ _ _ (⟨4, 99⟩ : S41) )) (Reps.none _ _))))); intro v133 w43 ho44 hb hg_ hnew_; clear hg_ hnew_; (first | rw [← Ny132.out] at ho44 | (simp only [Int.reduceToNat] at ho44; rw [← Ny132.out] at ho44)); have n0_ := Aside0.mk (Kd.R_lower ho44 (below_size (by repeat (first | (with_reducible first | exact HB.out | apply below_alloc | apply pw_below_drewN | apply below_drew1) | exact HB.out)))); have n1_ := Aside0.mk (below_step (by repeat (first | (with_reducible first | exact HB.out | apply below_alloc | apply pw_below_drewN | apply below_drew1) | exact HB.out)) hb); clear HB; have HO134 := n0_; have HB := n1_; clear n0_ n1_; clear hb ho44; obtain ⟨Ao45, co45, eo45⟩ := Kd.R_slice HO134.out; subst eo45) | ((with_reducible refine gate_callee (f := 8) rfl ?_); refine goesL_ (some 12) rfl rfl Try.func8 (by kernel_rfl) rfl #[.slice Ao45 y132.length co45] rfl (by (try simp only [List.map_toArray, List.map_cons, List.map_nil]); first | done | rfl | (simp only [List.length_drop, List.length_take]; rfl)) ?_; (with_reducible refine (ranges_Pack.calls k _ _ y132 t135 t136 _ ?side1 ?side2 A1.out).mono ?_); (case side1 => repeat (first | exact (Kd.R_reads' HO134.out).2.2 | (with_reducible refine Kd.C_alloc ?_ _) | (with_reducible refine Kd.C_drewN ?_ _) | (with_reducible refine Kd.C_drew ?_))); (case side2 => exact (Kd.R_reads' HO134.out).2.1); rintro e w46 ⟨v137, rfl, ho0, hb⟩; refine ⟨_, rfl, ?_⟩; have n0_ := Aside0.mk (Kd.R_below (by (with_reducible repeat (first | apply Kd.R_alloc | apply Kd.R_drewN | apply Kd.R_drew)); exact HO134.out) hb); have n1_ := Aside0.mk (Kd.R_lower ho0 (below_size (by repeat (first | (with_reducible first | exact HB.out | apply below_alloc | apply pw_below_drewN | apply below_drew1) | exact HB.out)))); have n2_ := Aside0.mk (below_step (by repeat (first | (with_reducible first | exact HB.out | apply below_alloc | apply pw_below_drewN | apply below_drew1) | exact HB.out)) hb); clear HO134; clear HB; have HO134 := n0_; have HO138 := n1_; have HB := n2_; clear n0_ n1_ n2_; (try clear hb); (try clear hb2); (try clear hk); (try clear hi); (try clear ho0); obtain ⟨Ao47, co47, eo47⟩ := Kd.R_slice HO138.out; subst eo47) | ((with_reducible refine gate_callee (f := 16) rfl ?_); refine goesL_ (some 17) rfl rfl Try.func16 (by kernel_rfl) rfl #[.slice Ao47 t135.length co47, .int .i64 2] rfl (by (try simp only [List.map_toArray, List.map_cons, List.map_nil]); first | done | rfl | (simp only [List.length_drop, List.length_take]; rfl)) ?_; (with_reducible refine (ranges_Scalar.calls k _ _ t135 2 t139 t140 _ ?side1 ?side2 A2.out).mono ?_); (case side1 => repeat (first | exact (Kd.R_reads' HO138.out).2.2 | (with_reducible refine Kd.C_alloc ?_ _) | (with_reducible refine Kd.C_drewN ?_ _) | (with_reducible refine Kd.C_drew ?_))); (case side2 => exact (Kd.R_reads' HO138.out).2.1); rintro e w48 ⟨rfl, hb⟩; refine ⟨_, rfl, ?_⟩; have n0_ := Aside0.mk (Kd.R_below (by (with_reducible repeat (first | apply Kd.R_alloc | apply Kd.R_drewN | apply Kd.R_drew)); exact HO134.out) hb); have n1_ := Aside0.mk (Kd.R_below (by (with_reducible repeat (first | apply Kd.R_alloc | apply Kd.R_drewN | apply Kd.R_drew)); exact HO138.out) hb); have n2_ := Aside0.mk (below_step (by repeat (first | (with_reducible first | exact HB.out | apply below_alloc | apply pw_below_drewN | apply below_drew1) | exact HB.out)) hb); clear HO134; clear HO138; clear HB; have HO134 := n0_; have HO138 := n1_; have HB := n2_; clear n0_ n1_ n2_; (try clear hb); (try clear hb2); (try clear hk); (try clear hi)) | ((with_reducible refine gate_callee (f := 18) rfl ?_); refine goesL_ (some 22) rfl rfl Try.func18 (by kernel_rfl) rfl #[.slice Ao47 t135.length co47, .int .i32 99] rfl (by (try simp only [List.map_toArray, List.map_cons, List.map_nil]); first | done | rfl | (simp only [List.length_drop, List.length_take]; rfl)) ?_; (with_reducible refine (ranges_Code.calls k _ _ t135 99 t141 t142 _ ?side1 ?side2 A3.out).mono ?_); (case side1 => repeat (first | exact (Kd.R_reads' HO138.out).2.2 | (with_reducible refine Kd.C_alloc ?_ _) | (with_reducible refine Kd.C_drewN ?_ _) | (with_reducible refine Kd.C_drew ?_))); (case side2 => exact (Kd.R_reads' HO138.out).2.1); rintro e w49 ⟨rfl, hb⟩; refine ⟨_, rfl, ?_⟩; have n0_ := Aside0.mk (Kd.R_below (by (with_reducible repeat (first | apply Kd.R_alloc | apply Kd.R_drewN | apply Kd.R_drew)); exact HO134.out) hb); have n1_ := Aside0.mk (Kd.R_below (by (with_reducible repeat (first | apply Kd.R_alloc | apply Kd.R_drewN | apply Kd.R_drew)); exact HO138.out) hb); have n2_ := Aside0.mk (below_step (by repeat (first | (with_reducible first | exact HB.out | apply below_alloc | apply pw_below_drewN | apply below_drew1) | exact HB.out)) hb); clear HO134; clear HO138; clear HB; have HO134 := n0_; have HO138 := n1_; have HB := n2_; clear n0_ n1_ n2_; (try clear hb); (try clear hb2); (try clear hk); (try clear hi)))
        go_ret
        exact ⟨by first | rfl | (simp [errW_none, errW_some] <;> rfl) | (simp [*, errW_none, errW_some] <;> rfl), by repeat (first | (with_reducible first | exact HB.out | apply below_alloc | apply pw_below_drewN | apply below_drew1) | exact HB.out)⟩
    · rw [if_neg c5] at H
      have c5b0 : ((t135.length : Int) == 2) = false := beq_eq_false_iff_ne.mpr c5
      have c5b1 : ((t135.length : Int) != 2) = true := bne_iff_ne.mpr c5
      obtain rfl := Option.some.inj H
      go_enter Try.func20, Try.ntmps20
      go_wp2_with (first | ((with_reducible refine gate_dst (N := 11) rfl ?_); (try (refine gate_guard (by rfl) ?_; dsimp only)); refine Kd.R_lit k41 _ 41 ?hg (N := 11) ?hd (xs := ([(⟨1, 97⟩ : S41), (⟨2, 98⟩ : S41), (⟨4, 99⟩ : S41)] : List (S41))) (inner := [.int .i64 1, .int .i32 97, .int .i64 2, .int .i32 98, .int .i64 4, .int .i32 99]) (ok := fun _ => True) (okp := fun _ => True) ?hr ?hp (fun _ hk => hk) trivial (Below.refl _ _) (Nat.le_refl _) (by simp) ?_; (case hd => rfl); (case hg => rfl); (case hr => first | (go_simp; done) | (go_simp; rfl)); (case hp => exact (Reps.c2 (show Kd.M k41 _ _ _ (⟨1, 97⟩ : S41) [.int .i64 1, .int .i32 97] from (k41_mkM _ _ _ (⟨1, 97⟩ : S41) )) (Reps.c2 (show Kd.M k41 _ _ _ (⟨2, 98⟩ : S41) [.int .i64 2, .int .i32 98] from (k41_mkM _ _ _ (⟨2, 98⟩ : S41) )) (Reps.c2 (show Kd.M k41 _ _ _ (⟨4, 99⟩ : S41) [.int .i64 4, .int .i32 99] from (k41_mkM _ _ _ (⟨4, 99⟩ : S41) )) (Reps.none _ _))))); intro v133 w50 ho51 hb hg_ hnew_; clear hg_ hnew_; (first | rw [← Ny132.out] at ho51 | (simp only [Int.reduceToNat] at ho51; rw [← Ny132.out] at ho51)); have n0_ := Aside0.mk (Kd.R_lower ho51 (below_size (by repeat (first | (with_reducible first | exact HB.out | apply below_alloc | apply pw_below_drewN | apply below_drew1) | exact HB.out)))); have n1_ := Aside0.mk (below_step (by repeat (first | (with_reducible first | exact HB.out | apply below_alloc | apply pw_below_drewN | apply below_drew1) | exact HB.out)) hb); clear HB; have HO134 := n0_; have HB := n1_; clear n0_ n1_; clear hb ho51; obtain ⟨Ao52, co52, eo52⟩ := Kd.R_slice HO134.out; subst eo52) | ((with_reducible refine gate_callee (f := 8) rfl ?_); refine goesL_ (some 12) rfl rfl Try.func8 (by kernel_rfl) rfl #[.slice Ao52 y132.length co52] rfl (by (try simp only [List.map_toArray, List.map_cons, List.map_nil]); first | done | rfl | (simp only [List.length_drop, List.length_take]; rfl)) ?_; (with_reducible refine (ranges_Pack.calls k _ _ y132 t135 t136 _ ?side1 ?side2 A1.out).mono ?_); (case side1 => repeat (first | exact (Kd.R_reads' HO134.out).2.2 | (with_reducible refine Kd.C_alloc ?_ _) | (with_reducible refine Kd.C_drewN ?_ _) | (with_reducible refine Kd.C_drew ?_))); (case side2 => exact (Kd.R_reads' HO134.out).2.1); rintro e w53 ⟨v137, rfl, ho0, hb⟩; refine ⟨_, rfl, ?_⟩; have n0_ := Aside0.mk (Kd.R_below (by (with_reducible repeat (first | apply Kd.R_alloc | apply Kd.R_drewN | apply Kd.R_drew)); exact HO134.out) hb); have n1_ := Aside0.mk (Kd.R_lower ho0 (below_size (by repeat (first | (with_reducible first | exact HB.out | apply below_alloc | apply pw_below_drewN | apply below_drew1) | exact HB.out)))); have n2_ := Aside0.mk (below_step (by repeat (first | (with_reducible first | exact HB.out | apply below_alloc | apply pw_below_drewN | apply below_drew1) | exact HB.out)) hb); clear HO134; clear HB; have HO134 := n0_; have HO138 := n1_; have HB := n2_; clear n0_ n1_ n2_; (try clear hb); (try clear hb2); (try clear hk); (try clear hi); (try clear ho0); obtain ⟨Ao54, co54, eo54⟩ := Kd.R_slice HO138.out; subst eo54) | ((with_reducible refine gate_callee (f := 16) rfl ?_); refine goesL_ (some 17) rfl rfl Try.func16 (by kernel_rfl) rfl #[.slice Ao54 t135.length co54, .int .i64 2] rfl (by (try simp only [List.map_toArray, List.map_cons, List.map_nil]); first | done | rfl | (simp only [List.length_drop, List.length_take]; rfl)) ?_; (with_reducible refine (ranges_Scalar.calls k _ _ t135 2 t139 t140 _ ?side1 ?side2 A2.out).mono ?_); (case side1 => repeat (first | exact (Kd.R_reads' HO138.out).2.2 | (with_reducible refine Kd.C_alloc ?_ _) | (with_reducible refine Kd.C_drewN ?_ _) | (with_reducible refine Kd.C_drew ?_))); (case side2 => exact (Kd.R_reads' HO138.out).2.1); rintro e w55 ⟨rfl, hb⟩; refine ⟨_, rfl, ?_⟩; have n0_ := Aside0.mk (Kd.R_below (by (with_reducible repeat (first | apply Kd.R_alloc | apply Kd.R_drewN | apply Kd.R_drew)); exact HO134.out) hb); have n1_ := Aside0.mk (Kd.R_below (by (with_reducible repeat (first | apply Kd.R_alloc | apply Kd.R_drewN | apply Kd.R_drew)); exact HO138.out) hb); have n2_ := Aside0.mk (below_step (by repeat (first | (with_reducible first | exact HB.out | apply below_alloc | apply pw_below_drewN | apply below_drew1) | exact HB.out)) hb); clear HO134; clear HO138; clear HB; have HO134 := n0_; have HO138 := n1_; have HB := n2_; clear n0_ n1_ n2_; (try clear hb); (try clear hb2); (try clear hk); (try clear hi)) | ((with_reducible refine gate_callee (f := 18) rfl ?_); refine goesL_ (some 22) rfl rfl Try.func18 (by kernel_rfl) rfl #[.slice Ao54 t135.length co54, .int .i32 99] rfl (by (try simp only [List.map_toArray, List.map_cons, List.map_nil]); first | done | rfl | (simp only [List.length_drop, List.length_take]; rfl)) ?_; (with_reducible refine (ranges_Code.calls k _ _ t135 99 t141 t142 _ ?side1 ?side2 A3.out).mono ?_); (case side1 => repeat (first | exact (Kd.R_reads' HO138.out).2.2 | (with_reducible refine Kd.C_alloc ?_ _) | (with_reducible refine Kd.C_drewN ?_ _) | (with_reducible refine Kd.C_drew ?_))); (case side2 => exact (Kd.R_reads' HO138.out).2.1); rintro e w56 ⟨rfl, hb⟩; refine ⟨_, rfl, ?_⟩; have n0_ := Aside0.mk (Kd.R_below (by (with_reducible repeat (first | apply Kd.R_alloc | apply Kd.R_drewN | apply Kd.R_drew)); exact HO134.out) hb); have n1_ := Aside0.mk (Kd.R_below (by (with_reducible repeat (first | apply Kd.R_alloc | apply Kd.R_drewN | apply Kd.R_drew)); exact HO138.out) hb); have n2_ := Aside0.mk (below_step (by repeat (first | (with_reducible first | exact HB.out | apply below_alloc | apply pw_below_drewN | apply below_drew1) | exact HB.out)) hb); clear HO134; clear HO138; clear HB; have HO134 := n0_; have HO138 := n1_; have HB := n2_; clear n0_ n1_ n2_; (try clear hb); (try clear hb2); (try clear hk); (try clear hi)))
      go_ret
      exact ⟨by first | rfl | (simp [errW_none, errW_some] <;> rfl) | (simp [*, errW_none, errW_some] <;> rfl), by repeat (first | (with_reducible first | exact HB.out | apply below_alloc | apply pw_below_drewN | apply below_drew1) | exact HB.out)⟩
  · rw [if_neg c4] at H
    have c4b0 : (t136 == 0) = false := beq_eq_false_iff_ne.mpr c4
    have c4b1 : (t136 != 0) = true := bne_iff_ne.mpr c4
    obtain rfl := Option.some.inj H
    go_enter Try.func20, Try.ntmps20
    go_wp2_with (first | ((with_reducible refine gate_dst (N := 11) rfl ?_); (try (refine gate_guard (by rfl) ?_; dsimp only)); refine Kd.R_lit k41 _ 41 ?hg (N := 11) ?hd (xs := ([(⟨1, 97⟩ : S41), (⟨2, 98⟩ : S41), (⟨4, 99⟩ : S41)] : List (S41))) (inner := [.int .i64 1, .int .i32 97, .int .i64 2, .int .i32 98, .int .i64 4, .int .i32 99]) (ok := fun _ => True) (okp := fun _ => True) ?hr ?hp (fun _ hk => hk) trivial (Below.refl _ _) (Nat.le_refl _) (by simp) ?_; (case hd => rfl); (case hg => rfl); (case hr => first | (go_simp; done) | (go_simp; rfl)); (case hp => exact (Reps.c2 (show Kd.M k41 _ _ _ (⟨1, 97⟩ : S41) [.int .i64 1, .int .i32 97] from (k41_mkM _ _ _ (⟨1, 97⟩ : S41) )) (Reps.c2 (show Kd.M k41 _ _ _ (⟨2, 98⟩ : S41) [.int .i64 2, .int .i32 98] from (k41_mkM _ _ _ (⟨2, 98⟩ : S41) )) (Reps.c2 (show Kd.M k41 _ _ _ (⟨4, 99⟩ : S41) [.int .i64 4, .int .i32 99] from (k41_mkM _ _ _ (⟨4, 99⟩ : S41) )) (Reps.none _ _))))); intro v133 w57 ho58 hb hg_ hnew_; clear hg_ hnew_; (first | rw [← Ny132.out] at ho58 | (simp only [Int.reduceToNat] at ho58; rw [← Ny132.out] at ho58)); have n0_ := Aside0.mk (Kd.R_lower ho58 (below_size (by repeat (first | (with_reducible first | exact HB.out | apply below_alloc | apply pw_below_drewN | apply below_drew1) | exact HB.out)))); have n1_ := Aside0.mk (below_step (by repeat (first | (with_reducible first | exact HB.out | apply below_alloc | apply pw_below_drewN | apply below_drew1) | exact HB.out)) hb); clear HB; have HO134 := n0_; have HB := n1_; clear n0_ n1_; clear hb ho58; obtain ⟨Ao59, co59, eo59⟩ := Kd.R_slice HO134.out; subst eo59) | ((with_reducible refine gate_callee (f := 8) rfl ?_); refine goesL_ (some 12) rfl rfl Try.func8 (by kernel_rfl) rfl #[.slice Ao59 y132.length co59] rfl (by (try simp only [List.map_toArray, List.map_cons, List.map_nil]); first | done | rfl | (simp only [List.length_drop, List.length_take]; rfl)) ?_; (with_reducible refine (ranges_Pack.calls k _ _ y132 t135 t136 _ ?side1 ?side2 A1.out).mono ?_); (case side1 => repeat (first | exact (Kd.R_reads' HO134.out).2.2 | (with_reducible refine Kd.C_alloc ?_ _) | (with_reducible refine Kd.C_drewN ?_ _) | (with_reducible refine Kd.C_drew ?_))); (case side2 => exact (Kd.R_reads' HO134.out).2.1); rintro e w60 ⟨v137, rfl, ho0, hb⟩; refine ⟨_, rfl, ?_⟩; have n0_ := Aside0.mk (Kd.R_below (by (with_reducible repeat (first | apply Kd.R_alloc | apply Kd.R_drewN | apply Kd.R_drew)); exact HO134.out) hb); have n1_ := Aside0.mk (Kd.R_lower ho0 (below_size (by repeat (first | (with_reducible first | exact HB.out | apply below_alloc | apply pw_below_drewN | apply below_drew1) | exact HB.out)))); have n2_ := Aside0.mk (below_step (by repeat (first | (with_reducible first | exact HB.out | apply below_alloc | apply pw_below_drewN | apply below_drew1) | exact HB.out)) hb); clear HO134; clear HB; have HO134 := n0_; have HO138 := n1_; have HB := n2_; clear n0_ n1_ n2_; (try clear hb); (try clear hb2); (try clear hk); (try clear hi); (try clear ho0); obtain ⟨Ao61, co61, eo61⟩ := Kd.R_slice HO138.out; subst eo61) | ((with_reducible refine gate_callee (f := 16) rfl ?_); refine goesL_ (some 17) rfl rfl Try.func16 (by kernel_rfl) rfl #[.slice Ao61 t135.length co61, .int .i64 2] rfl (by (try simp only [List.map_toArray, List.map_cons, List.map_nil]); first | done | rfl | (simp only [List.length_drop, List.length_take]; rfl)) ?_; (with_reducible refine (ranges_Scalar.calls k _ _ t135 2 t139 t140 _ ?side1 ?side2 A2.out).mono ?_); (case side1 => repeat (first | exact (Kd.R_reads' HO138.out).2.2 | (with_reducible refine Kd.C_alloc ?_ _) | (with_reducible refine Kd.C_drewN ?_ _) | (with_reducible refine Kd.C_drew ?_))); (case side2 => exact (Kd.R_reads' HO138.out).2.1); rintro e w62 ⟨rfl, hb⟩; refine ⟨_, rfl, ?_⟩; have n0_ := Aside0.mk (Kd.R_below (by (with_reducible repeat (first | apply Kd.R_alloc | apply Kd.R_drewN | apply Kd.R_drew)); exact HO134.out) hb); have n1_ := Aside0.mk (Kd.R_below (by (with_reducible repeat (first | apply Kd.R_alloc | apply Kd.R_drewN | apply Kd.R_drew)); exact HO138.out) hb); have n2_ := Aside0.mk (below_step (by repeat (first | (with_reducible first | exact HB.out | apply below_alloc | apply pw_below_drewN | apply below_drew1) | exact HB.out)) hb); clear HO134; clear HO138; clear HB; have HO134 := n0_; have HO138 := n1_; have HB := n2_; clear n0_ n1_ n2_; (try clear hb); (try clear hb2); (try clear hk); (try clear hi)) | ((with_reducible refine gate_callee (f := 18) rfl ?_); refine goesL_ (some 22) rfl rfl Try.func18 (by kernel_rfl) rfl #[.slice Ao61 t135.length co61, .int .i32 99] rfl (by (try simp only [List.map_toArray, List.map_cons, List.map_nil]); first | done | rfl | (simp only [List.length_drop, List.length_take]; rfl)) ?_; (with_reducible refine (ranges_Code.calls k _ _ t135 99 t141 t142 _ ?side1 ?side2 A3.out).mono ?_); (case side1 => repeat (first | exact (Kd.R_reads' HO138.out).2.2 | (with_reducible refine Kd.C_alloc ?_ _) | (with_reducible refine Kd.C_drewN ?_ _) | (with_reducible refine Kd.C_drew ?_))); (case side2 => exact (Kd.R_reads' HO138.out).2.1); rintro e w63 ⟨rfl, hb⟩; refine ⟨_, rfl, ?_⟩; have n0_ := Aside0.mk (Kd.R_below (by (with_reducible repeat (first | apply Kd.R_alloc | apply Kd.R_drewN | apply Kd.R_drew)); exact HO134.out) hb); have n1_ := Aside0.mk (Kd.R_below (by (with_reducible repeat (first | apply Kd.R_alloc | apply Kd.R_drewN | apply Kd.R_drew)); exact HO138.out) hb); have n2_ := Aside0.mk (below_step (by repeat (first | (with_reducible first | exact HB.out | apply below_alloc | apply pw_below_drewN | apply below_drew1) | exact HB.out)) hb); clear HO134; clear HO138; clear HB; have HO134 := n0_; have HO138 := n1_; have HB := n2_; clear n0_ n1_ n2_; (try clear hb); (try clear hb2); (try clear hk); (try clear hi)))
    go_ret
    exact ⟨by first | rfl | (simp [errW_none, errW_some] <;> rfl) | (simp [*, errW_none, errW_some] <;> rfl), by repeat (first | (with_reducible first | exact HB.out | apply below_alloc | apply pw_below_drewN | apply below_drew1) | exact HB.out)⟩

end Go.Proofs.Ytnapldildjnchaa.PRangesSplit
