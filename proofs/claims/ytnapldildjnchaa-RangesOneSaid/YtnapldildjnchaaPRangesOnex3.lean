/- RangesOne: what the functions answer, and their walks; ranges.Scalar is given by YtnapldildjnchaaGRangesOne. Written by a program of ours over the print. -/
import Derived.Test.YtnapldildjnchaaPRangesOnex0
import Derived.Test.YtnapldildjnchaaPRangesOnex1
import Derived.Test.YtnapldildjnchaaPRangesOnex2
import Derived.Test.YtnapldildjnchaaGRangesOne
namespace Go.Proofs.Ytnapldildjnchaa.PRangesOne
open Go.RowKit Go.Proofs.YtnapldildjnchaaW.PrintWords Go.Proofs.YtnapldildjnchaaW.PrintLast Go.Proofs.YtnapldildjnchaaW.PrintMore
attribute [local go_sem] max2_int min2_int max_two min_two max_three min_three max_four min_four   -- for this text's walks alone
set_option linter.unusedVariables false
set_option linter.unusedSimpArgs false

/-! ### dragomanlaw06_RangesOne: function 6 -/
def dragomanlaw06_RangesOne.j0 : Nat → Int → List (S44) → Int → Bool → Bool → Int → Int → Int → Option (Bool)
  | 0, _, _, _, _, _, _, _, _ => none
  | k + 1, x1, x5, x6, x7, x38, x142000, x142001, x142002 => if x38 = true then (some false) else (if x7 = true then ((ranges_Code.f k x5 x6).bind fun bt152 => (if (wrap64 ((wrap64 (x6)) - (wrap64 (x142002)))) = (wrap64 (x1 - x142000)) then (if bt152.2 = true then (some (bt152.1 == x1)) else (some false)) else (some false))) else (some (x6 == 0)))
def dragomanlaw06_RangesOne.f (k : Nat) (a0_0 : Int) (a0_1 : Int) (a0_2 : Int) (a1 : Int) : Option (Bool) := (dragomanlaw06_works.f k).bind fun t142 => (if t142 = true then ((some (([(⟨a0_0, a0_1, a0_2⟩ : S44)] : List (S44)) : List (S44))).bind fun y143 => ((ranges_Check.f k y143).bind fun t146 => (if t146 = 0 then ((ranges_Scalar.f k y143 a1).bind fun bt150 => (if a1 ≥ a0_0 then (dragomanlaw06_RangesOne.j0 k a1 y143 bt150.1 bt150.2 (bt150.2 != (decide (a1 ≤ a0_1))) a0_0 a0_1 a0_2) else (dragomanlaw06_RangesOne.j0 k a1 y143 bt150.1 bt150.2 (bt150.2 != false) a0_0 a0_1 a0_2))) else ((ranges_Pairs.f k y143).bind fun t147 => (some ((t147.length : Int) == 0)))))) else (some false))
theorem dragomanlaw06_RangesOne.mono_l : ∀ k, (∀ y0 y1 y2 y3 y4 y5 y6 y7, LeO (dragomanlaw06_RangesOne.j0 k y0 y1 y2 y3 y4 y5 y6 y7) (dragomanlaw06_RangesOne.j0 (k + 1) y0 y1 y2 y3 y4 y5 y6 y7))
  | 0 => fun _ _ _ _ _ _ _ _ r h => by simp [dragomanlaw06_RangesOne.j0] at h
  | k + 1 => by
    have ih0 := dragomanlaw06_RangesOne.mono_l k
    · intro y0 y1 y2 y3 y4 y5 y6 y7
      unfold dragomanlaw06_RangesOne.j0
      repeat' first
      | (with_reducible exact ih0 _ _ _ _ _ _ _ _)
      | (with_reducible exact dragomanlaw06_works.mono _)
      | (with_reducible exact ranges_Check.mono _ _)
      | (with_reducible exact ranges_Code.mono _ _ _)
      | (with_reducible exact ranges_Pairs.mono _ _)
      | (with_reducible exact ranges_Scalar.mono _ _ _)
      | (with_reducible exact LeO.refl _)
      | (with_reducible exact LeO.none _)
      | (with_reducible refine LeO.ite ?_ ?_)
      | (with_reducible refine LeO.bind ?_ (fun _ => ?_))
      | exact ih0 _ _ _ _ _ _ _ _
      | exact dragomanlaw06_works.mono _
      | exact ranges_Check.mono _ _
      | exact ranges_Code.mono _ _ _
      | exact ranges_Pairs.mono _ _
      | exact ranges_Scalar.mono _ _ _
      | exact LeO.none _
      | refine LeO.ite ?_ ?_
      | refine LeO.bind ?_ (fun _ => ?_)
theorem dragomanlaw06_RangesOne.mono : ∀ a0 a1 a2 a3 k, LeO (dragomanlaw06_RangesOne.f k a0 a1 a2 a3) (dragomanlaw06_RangesOne.f (k + 1) a0 a1 a2 a3) := by
  intro a0 a1 a2 a3 k
  have ih0 := dragomanlaw06_RangesOne.mono_l k
  unfold dragomanlaw06_RangesOne.f
  repeat' first
      | (with_reducible exact ih0 _ _ _ _ _ _ _ _)
      | (with_reducible exact dragomanlaw06_works.mono _)
      | (with_reducible exact ranges_Check.mono _ _)
      | (with_reducible exact ranges_Code.mono _ _ _)
      | (with_reducible exact ranges_Pairs.mono _ _)
      | (with_reducible exact ranges_Scalar.mono _ _ _)
      | (with_reducible exact LeO.refl _)
      | (with_reducible exact LeO.none _)
      | (with_reducible refine LeO.ite ?_ ?_)
      | (with_reducible refine LeO.bind ?_ (fun _ => ?_))
      | exact ih0 _ _ _ _ _ _ _ _
      | exact dragomanlaw06_works.mono _
      | exact ranges_Check.mono _ _
      | exact ranges_Code.mono _ _ _
      | exact ranges_Pairs.mono _ _
      | exact ranges_Scalar.mono _ _ _
      | exact LeO.none _
      | refine LeO.ite ?_ ?_
      | refine LeO.bind ?_ (fun _ => ?_)
set_option maxHeartbeats 8000000 in
set_option maxRecDepth 100000 in
theorem dragomanlaw06_RangesOne.calls (k : Nat) (a0_0 : Int) (a0_1 : Int) (a0_2 : Int) (a1 : Int) (r : Bool) (w : World) (h : dragomanlaw06_RangesOne.f k a0_0 a0_1 a0_2 a1 = some r) :
    Calls Try.prog 6 #[.agg #[.int .i64 a0_0, .int .i64 a0_1, .int .i32 a0_2], .int .i64 a1] w fun e w' => e = .returned (.bool r) ∧ Below w.heap.size w w' := by
  have hu44 := Try.underlying44
  have HB := Aside0.mk (Below.refl w.heap.size w)
  have H : ((dragomanlaw06_works.f k).bind fun t142 => (if t142 = true then ((some (([(⟨a0_0, a0_1, a0_2⟩ : S44)] : List (S44)) : List (S44))).bind fun y143 => ((ranges_Check.f k y143).bind fun t146 => (if t146 = 0 then ((ranges_Scalar.f k y143 a1).bind fun bt150 => (if a1 ≥ a0_0 then (dragomanlaw06_RangesOne.j0 k a1 y143 bt150.1 bt150.2 (bt150.2 != (decide (a1 ≤ a0_1))) a0_0 a0_1 a0_2) else (dragomanlaw06_RangesOne.j0 k a1 y143 bt150.1 bt150.2 (bt150.2 != false) a0_0 a0_1 a0_2))) else ((ranges_Pairs.f k y143).bind fun t147 => (some ((t147.length : Int) == 0)))))) else (some false))) = some r := h
  clear h
  replace H := Option.bind_eq_some_iff.mp H
  obtain ⟨t142, A30, H⟩ := H
  replace H : (if t142 = true then ((some (([(⟨a0_0, a0_1, a0_2⟩ : S44)] : List (S44)) : List (S44))).bind fun y143 => ((ranges_Check.f k y143).bind fun t146 => (if t146 = 0 then ((ranges_Scalar.f k y143 a1).bind fun bt150 => (if a1 ≥ a0_0 then (dragomanlaw06_RangesOne.j0 k a1 y143 bt150.1 bt150.2 (bt150.2 != (decide (a1 ≤ a0_1))) a0_0 a0_1 a0_2) else (dragomanlaw06_RangesOne.j0 k a1 y143 bt150.1 bt150.2 (bt150.2 != false) a0_0 a0_1 a0_2))) else ((ranges_Pairs.f k y143).bind fun t147 => (some ((t147.length : Int) == 0)))))) else (some false)) = some r := H
  have A3 := Aside0.mk A30
  clear A30
  by_cases c4 : t142 = true
  · subst c4
    have H1 : ((some (([(⟨a0_0, a0_1, a0_2⟩ : S44)] : List (S44)) : List (S44))).bind fun y143 => ((ranges_Check.f k y143).bind fun t146 => (if t146 = 0 then ((ranges_Scalar.f k y143 a1).bind fun bt150 => (if a1 ≥ a0_0 then (dragomanlaw06_RangesOne.j0 k a1 y143 bt150.1 bt150.2 (bt150.2 != (decide (a1 ≤ a0_1))) a0_0 a0_1 a0_2) else (dragomanlaw06_RangesOne.j0 k a1 y143 bt150.1 bt150.2 (bt150.2 != false) a0_0 a0_1 a0_2))) else ((ranges_Pairs.f k y143).bind fun t147 => (some ((t147.length : Int) == 0)))))) = some r := by rw [if_pos rfl] at H; exact H
    clear H
    have H := H1
    clear H1
    obtain ⟨y143, hy143⟩ : ∃ y_ : List (S44), y_ = (([(⟨a0_0, a0_1, a0_2⟩ : S44)] : List (S44))) := ⟨_, rfl⟩
    replace H : ((ranges_Check.f k y143).bind fun t146 => (if t146 = 0 then ((ranges_Scalar.f k y143 a1).bind fun bt150 => (if a1 ≥ a0_0 then (dragomanlaw06_RangesOne.j0 k a1 y143 bt150.1 bt150.2 (bt150.2 != (decide (a1 ≤ a0_1))) a0_0 a0_1 a0_2) else (dragomanlaw06_RangesOne.j0 k a1 y143 bt150.1 bt150.2 (bt150.2 != false) a0_0 a0_1 a0_2))) else ((ranges_Pairs.f k y143).bind fun t147 => (some ((t147.length : Int) == 0))))) = some r := by first | (rw [hy143]; with_reducible exact H) | (have H2_ := (Option.bind_some _ _).symm.trans H; rw [hy143]; with_reducible exact H2_) | (have H2_ := (Option.bind_some _ _).symm.trans H; with_reducible exact H2_) | with_reducible exact H | (rw [hy143]; exact H) | exact H
    have Ny143 := Aside0.mk hy143
    clear hy143
    replace H := Option.bind_eq_some_iff.mp H
    obtain ⟨t146, A50, H⟩ := H
    replace H : (if t146 = 0 then ((ranges_Scalar.f k y143 a1).bind fun bt150 => (if a1 ≥ a0_0 then (dragomanlaw06_RangesOne.j0 k a1 y143 bt150.1 bt150.2 (bt150.2 != (decide (a1 ≤ a0_1))) a0_0 a0_1 a0_2) else (dragomanlaw06_RangesOne.j0 k a1 y143 bt150.1 bt150.2 (bt150.2 != false) a0_0 a0_1 a0_2))) else ((ranges_Pairs.f k y143).bind fun t147 => (some ((t147.length : Int) == 0)))) = some r := H
    have A5 := Aside0.mk A50
    clear A50
    by_cases c6 : t146 = 0
    · rw [if_pos c6] at H
      have c6b0 : (t146 == 0) = true := beq_iff_eq.mpr c6
      have c6b1 : (t146 != 0) = false := bne_eq_false_iff_eq.mpr c6
      clear c6
      replace H := Option.bind_eq_some_iff.mp H
      obtain ⟨⟨t150, t151⟩, A70, H⟩ := H
      replace H : (if a1 ≥ a0_0 then (dragomanlaw06_RangesOne.j0 k a1 y143 t150 t151 (t151 != (decide (a1 ≤ a0_1))) a0_0 a0_1 a0_2) else (dragomanlaw06_RangesOne.j0 k a1 y143 t150 t151 (t151 != false) a0_0 a0_1 a0_2)) = some r := H
      have A7 := Aside0.mk A70
      clear A70
      have HC8 := Aside0.mk H
      clear H
      go_enter Try.func6, Try.ntmps6
      go_upto_region 7 with (first | ((with_reducible refine gate_dst (N := 2) rfl ?_); refine box_event ?hg (N := 2) ?hd (cs := #[.int .i64 a0_0, .int .i64 a0_1, .int .i32 a0_2]) (t := 44) ?hr ?_; (case hd => rfl); (case hg => rfl); (case hr => first | (go_simp; done) | (go_simp; rfl)); intro gb141 hg w9 hbox hb; have n0_ := Aside0.mk (below_step (by repeat (first | (with_reducible first | exact HB.out | apply below_alloc | apply pw_below_drewN | apply below_drew1) | exact HB.out)) hb); have n1_ := Aside0.mk (hbox); have n2_ := Aside0.mk ((by rw [hg]; exact (below_size (by repeat (first | (with_reducible first | exact HB.out | apply below_alloc | apply pw_below_drewN | apply below_drew1) | exact HB.out))) : w.heap.size ≤ gb141)); have n3_ := Aside0.mk ((by rw [hg]; exact (below_size (by repeat (first | (with_reducible first | exact HB.out | apply below_alloc | apply pw_below_drewN | apply below_drew1) | exact HB.out))) : w.heap.size ≤ gb141)); clear HB; have HB := n0_; have BK141 := n1_; have GW141 := n2_; have GE141 := n3_; clear n0_ n1_ n2_ n3_; clear hb hbox hg) | ((with_reducible refine gate_callee (f := 20) rfl ?_); refine goesL_ (some 10) rfl rfl Try.func20 (by kernel_rfl) rfl #[] rfl (by (try simp only [List.map_toArray, List.map_cons, List.map_nil]); first | done | rfl | (simp only [List.length_drop, List.length_take]; rfl)) ?_; (with_reducible refine (dragomanlaw06_works.calls k  true _ A3.out).mono ?_); rintro e w10 ⟨rfl, hb⟩; refine ⟨_, rfl, ?_⟩; have n0_ := Aside0.mk (blk_below (g := gb141) (o := .cells #[.int .i64 a0_0, .int .i64 a0_1, .int .i32 a0_2] 44 (0, 0)) (by (with_reducible repeat (first | refine blk_drewN ?_ _ | refine blk_drew ?_ | refine blk_alloc ?_ _)); exact BK141.out) hb); have n1_ := Aside0.mk (below_step (by repeat (first | (with_reducible first | exact HB.out | apply below_alloc | apply pw_below_drewN | apply below_drew1 | refine below_set ?_ GE141.out) | exact HB.out)) hb); clear BK141; clear HB; have BK141 := n0_; have HB := n1_; clear n0_ n1_; (try clear hb); (try clear hb2); (try clear hk); (try clear hi); have hcz11_0 : w10.cell? ⟨gb141, 0, none⟩ = some (.int .i64 a0_0) := (blk_cell BK141.out 0).trans rfl; have hcz11_1 : w10.cell? ⟨gb141, 1, none⟩ = some (.int .i64 a0_1) := (blk_cell BK141.out 1).trans rfl; have hcz11_2 : w10.cell? ⟨gb141, 2, none⟩ = some (.int .i32 a0_2) := (blk_cell BK141.out 2).trans rfl; have hfz11_0 := blk_frozen BK141.out 0; have hfz11_1 := blk_frozen BK141.out 1; have hfz11_2 := blk_frozen BK141.out 2) | ((with_reducible refine gate_dst (N := 13) rfl ?_); refine Kd.R_lit k44 _ 44 ?hg (N := 13) ?hd (xs := ([(⟨a0_0, a0_1, a0_2⟩ : S44)] : List (S44))) (inner := [.int .i64 a0_0, .int .i64 a0_1, .int .i32 a0_2]) (ok := fun _ => True) (okp := fun _ => True) ?hr ?hp (fun _ hk => hk) trivial (Below.refl _ _) (Nat.le_refl _) (by simp) ?_; (case hd => rfl); (case hg => rfl); (case hr => first | (go_simp; done) | (go_simp; rfl)); (case hp => exact (Reps.c3 (show Kd.M k44 _ _ _ (⟨a0_0, a0_1, a0_2⟩ : S44) [.int .i64 a0_0, .int .i64 a0_1, .int .i32 a0_2] from (k44_mkM _ _ _ (⟨a0_0, a0_1, a0_2⟩ : S44) )) (Reps.none _ _))); intro v144 w12 ho13 hb hg_ hnew_; clear hg_ hnew_; (first | rw [← Ny143.out] at ho13 | (simp only [Int.reduceToNat] at ho13; rw [← Ny143.out] at ho13)); have n0_ := Aside0.mk (Kd.R_lower (Kd.R_newB ho13 (g := gb141) (o := .cells #[.int .i64 a0_0, .int .i64 a0_1, .int .i32 a0_2] 44 (0, 0)) (by (with_reducible repeat (first | refine blk_drewN ?_ _ | refine blk_drew ?_ | refine blk_alloc ?_ _)); exact BK141.out)) (below_size (by repeat (first | (with_reducible first | exact HB.out | apply below_alloc | apply pw_below_drewN | apply below_drew1 | refine below_set ?_ GE141.out) | exact HB.out)))); have n1_ := Aside0.mk (blk_below (g := gb141) (o := .cells #[.int .i64 a0_0, .int .i64 a0_1, .int .i32 a0_2] 44 (0, 0)) (by (with_reducible repeat (first | refine blk_drewN ?_ _ | refine blk_drew ?_ | refine blk_alloc ?_ _)); exact BK141.out) hb); have n2_ := Aside0.mk (below_step (by repeat (first | (with_reducible first | exact HB.out | apply below_alloc | apply pw_below_drewN | apply below_drew1 | refine below_set ?_ GE141.out) | exact HB.out)) hb); clear BK141; clear HB; have HO145 := n0_; have BK141 := n1_; have HB := n2_; clear n0_ n1_ n2_; clear hb ho13; obtain ⟨Ao14, co14, eo14⟩ := Kd.R_slice HO145.out; subst eo14) | ((with_reducible refine gate_callee (f := 13) rfl ?_); refine goesL_ (some 15) rfl rfl Try.func13 (by kernel_rfl) rfl #[.slice Ao14 y143.length co14] rfl (by (try simp only [List.map_toArray, List.map_cons, List.map_nil]); first | done | rfl | (simp only [List.length_drop, List.length_take]; rfl)) ?_; (with_reducible refine (ranges_Check.calls k _ _ y143 t146 _ ?side1 ?side2 A5.out).mono ?_); (case side1 => repeat (first | exact (Kd.R_reads' HO145.out).2.2 | (with_reducible refine Kd.C_alloc ?_ _) | (with_reducible refine Kd.C_drewN ?_ _) | (with_reducible refine Kd.C_drew ?_))); (case side2 => exact (Kd.R_reads' HO145.out).2.1); rintro e w15 ⟨rfl, hb⟩; refine ⟨_, rfl, ?_⟩; have n0_ := Aside0.mk (Kd.R_below (by (with_reducible repeat (first | apply Kd.R_alloc | apply Kd.R_drewN | apply Kd.R_drew)); exact HO145.out) hb); have n1_ := Aside0.mk (blk_below (g := gb141) (o := .cells #[.int .i64 a0_0, .int .i64 a0_1, .int .i32 a0_2] 44 (0, 0)) (by (with_reducible repeat (first | refine blk_drewN ?_ _ | refine blk_drew ?_ | refine blk_alloc ?_ _)); exact BK141.out) hb); have n2_ := Aside0.mk (below_step (by repeat (first | (with_reducible first | exact HB.out | apply below_alloc | apply pw_below_drewN | apply below_drew1 | refine below_set ?_ GE141.out) | exact HB.out)) hb); clear HO145; clear BK141; clear HB; have HO145 := n0_; have BK141 := n1_; have HB := n2_; clear n0_ n1_ n2_; (try clear hb); (try clear hb2); (try clear hk); (try clear hi)) | ((with_reducible refine gate_callee (f := 16) rfl ?_); refine goesL_ (some 24) rfl rfl Try.func16 (by kernel_rfl) rfl #[.slice Ao14 y143.length co14, .int .i64 a1] rfl (by (try simp only [List.map_toArray, List.map_cons, List.map_nil]); first | done | rfl | (simp only [List.length_drop, List.length_take]; rfl)) ?_; (with_reducible refine (ranges_Scalar.calls k _ _ y143 a1 t150 t151 _ ?side1 ?side2 A7.out).mono ?_); (case side1 => repeat (first | exact (Kd.R_reads' HO145.out).2.2 | (with_reducible refine Kd.C_alloc ?_ _) | (with_reducible refine Kd.C_drewN ?_ _) | (with_reducible refine Kd.C_drew ?_))); (case side2 => exact (Kd.R_reads' HO145.out).2.1); rintro e w16 ⟨rfl, hb⟩; refine ⟨_, rfl, ?_⟩; have n0_ := Aside0.mk (Kd.R_below (by (with_reducible repeat (first | apply Kd.R_alloc | apply Kd.R_drewN | apply Kd.R_drew)); exact HO145.out) hb); have n1_ := Aside0.mk (blk_below (g := gb141) (o := .cells #[.int .i64 a0_0, .int .i64 a0_1, .int .i32 a0_2] 44 (0, 0)) (by (with_reducible repeat (first | refine blk_drewN ?_ _ | refine blk_drew ?_ | refine blk_alloc ?_ _)); exact BK141.out) hb); have n2_ := Aside0.mk (below_step (by repeat (first | (with_reducible first | exact HB.out | apply below_alloc | apply pw_below_drewN | apply below_drew1 | refine below_set ?_ GE141.out) | exact HB.out)) hb); clear HO145; clear BK141; clear HB; have HO145 := n0_; have BK141 := n1_; have HB := n2_; clear n0_ n1_ n2_; (try clear hb); (try clear hb2); (try clear hk); (try clear hi)))
      (try simp only [Act.put, List.setIfInBounds_toArray, List.set_cons_zero, List.set_cons_succ])
      go_cut [38] (fun v38 wc => ∃ (kq : Nat) (x38_7 : Bool), v38 = .bool x38_7 ∧ Aside0 (dragomanlaw06_RangesOne.j0 kq a1 y143 t150 t151 x38_7 a0_0 a0_1 a0_2 = some r) ∧ Aside0 (kq ≤ k) ∧ Aside0 (Kd.R k44 44 wc w.heap.size (fun k_ => k_ ≠ gb141) (.slice Ao14 y143.length co14) y143) ∧ Aside0 (wc.heap[gb141]? = some (.cells #[.int .i64 a0_0, .int .i64 a0_1, .int .i32 a0_2] 44 (0, 0))) ∧ Aside0 (Below w.heap.size w wc))
      case first =>
        have H := HC8.out
        clear HC8
        by_cases c17 : a1 ≥ a0_0
        · rw [if_pos c17] at H
          have c17b0 : decide (a0_0 ≤ a1) = true := decide_eq_true c17
          clear c17
          (first | rw [c17b0] | (simp only [i64_w, i32_w]; rw [c17b0]) | skip)
          have H' := Aside0.mk H
          clear H
          have hcz18_0 : w16.cell? ⟨gb141, 0, none⟩ = some (.int .i64 a0_0) := (blk_cell BK141.out 0).trans rfl
          have hcz18_1 : w16.cell? ⟨gb141, 1, none⟩ = some (.int .i64 a0_1) := (blk_cell BK141.out 1).trans rfl
          have hcz18_2 : w16.cell? ⟨gb141, 2, none⟩ = some (.int .i32 a0_2) := (blk_cell BK141.out 2).trans rfl
          have hfz18_0 := blk_frozen BK141.out 0
          have hfz18_1 := blk_frozen BK141.out 1
          have hfz18_2 := blk_frozen BK141.out 2
          go_wp2
          go_meet
          case rel => exact ⟨_, ((t151 != (decide (a1 ≤ a0_1)))), (by first | rfl | (simp; done) | (simp [*]; done)), H', ⟨by first | omega | exact Nat.le_refl _⟩, ⟨by (with_reducible repeat (first | apply Kd.R_alloc | apply Kd.R_drewN | apply Kd.R_drew)); exact Kd.R_mono HO145.out (fun _ hk => hk.2)⟩, ⟨by (with_reducible repeat (first | refine blk_drewN ?_ _ | refine blk_drew ?_ | refine blk_alloc ?_ _)); exact BK141.out⟩, ⟨by repeat (first | (with_reducible first | exact HB.out | apply below_alloc | apply pw_below_drewN | apply below_drew1 | refine below_set ?_ GE141.out) | exact HB.out)⟩⟩
        · rw [if_neg c17] at H
          have c17b0 : decide (a0_0 ≤ a1) = false := decide_eq_false c17
          clear c17
          (first | rw [c17b0] | (simp only [i64_w, i32_w]; rw [c17b0]) | skip)
          have H' := Aside0.mk H
          clear H
          have hcz19_0 : w16.cell? ⟨gb141, 0, none⟩ = some (.int .i64 a0_0) := (blk_cell BK141.out 0).trans rfl
          have hcz19_1 : w16.cell? ⟨gb141, 1, none⟩ = some (.int .i64 a0_1) := (blk_cell BK141.out 1).trans rfl
          have hcz19_2 : w16.cell? ⟨gb141, 2, none⟩ = some (.int .i32 a0_2) := (blk_cell BK141.out 2).trans rfl
          have hfz19_0 := blk_frozen BK141.out 0
          have hfz19_1 := blk_frozen BK141.out 1
          have hfz19_2 := blk_frozen BK141.out 2
          go_wp2
          go_meet
          case rel => exact ⟨_, ((t151 != false)), (by first | rfl | (simp; done) | (simp [*]; done)), H', ⟨by first | omega | exact Nat.le_refl _⟩, ⟨by (with_reducible repeat (first | apply Kd.R_alloc | apply Kd.R_drewN | apply Kd.R_drew)); exact Kd.R_mono HO145.out (fun _ hk => hk.2)⟩, ⟨by (with_reducible repeat (first | refine blk_drewN ?_ _ | refine blk_drew ?_ | refine blk_alloc ?_ _)); exact BK141.out⟩, ⟨by repeat (first | (with_reducible first | exact HB.out | apply below_alloc | apply pw_below_drewN | apply below_drew1 | refine below_set ?_ GE141.out) | exact HB.out)⟩⟩
      case rest =>
        clear HC8
        try clear c1
        try clear c2
        try clear p2
        try clear c3
        try clear c4
        try clear c6
        try clear c6b0
        try clear c6b1
        try clear c13
        try clear c16
        try clear c17
        try clear c17b0
        try clear hcz11_0
        try clear hcz11_1
        try clear hcz11_2
        try clear hcz18_0
        try clear hcz18_1
        try clear hcz18_2
        try clear hcz19_0
        try clear hcz19_1
        try clear hcz19_2
        try clear hfz11_0
        try clear hfz11_1
        try clear hfz11_2
        try clear hfz18_0
        try clear hfz18_1
        try clear hfz18_2
        try clear hfz19_0
        try clear hfz19_1
        try clear hfz19_2
        obtain ⟨kq, x38_7, rfl, HA, HJ7, HO_5, BK141, HB⟩ := hcut
        cases kq with
        | zero => exact absurd HA.out (by simp [dragomanlaw06_RangesOne.j0])
        | succ kj7 =>
          have H := HA.out
          clear HA
          simp only [dragomanlaw06_RangesOne.j0] at H
          by_cases c20 : x38_7 = true
          · subst c20
            have H1 : (some false) = some r := by rw [if_pos rfl] at H; exact H
            clear H
            have H := H1
            clear H1
            obtain rfl := Option.some.inj H
            go_wp2
            go_ret
            exact ⟨by first | rfl | (simp [errW_none, errW_some] <;> rfl) | (simp [*, errW_none, errW_some] <;> rfl), by repeat (first | (with_reducible first | exact HB.out | apply below_alloc | apply pw_below_drewN | apply below_drew1 | refine below_set ?_ GE141.out) | exact HB.out)⟩
          · replace c20 := Bool.eq_false_iff.mpr c20
            subst c20
            have H1 : (if t151 = true then ((ranges_Code.f kj7 y143 t150).bind fun bt152 => (if (wrap64 ((wrap64 (t150)) - (wrap64 (a0_2)))) = (wrap64 (a1 - a0_0)) then (if bt152.2 = true then (some (bt152.1 == a1)) else (some false)) else (some false))) else (some (t150 == 0))) = some r := by rw [if_neg (show ¬ (false = true) by decide)] at H; exact H
            clear H
            have H := H1
            clear H1
            by_cases c21 : t151 = true
            · subst c21
              have H1 : ((ranges_Code.f kj7 y143 t150).bind fun bt152 => (if (wrap64 ((wrap64 (t150)) - (wrap64 (a0_2)))) = (wrap64 (a1 - a0_0)) then (if bt152.2 = true then (some (bt152.1 == a1)) else (some false)) else (some false))) = some r := by rw [if_pos rfl] at H; exact H
              clear H
              have H := H1
              clear H1
              replace H := Option.bind_eq_some_iff.mp H
              obtain ⟨⟨t152, t153⟩, A220, H⟩ := H
              replace H : (if (wrap64 ((wrap64 (t150)) - (wrap64 (a0_2)))) = (wrap64 (a1 - a0_0)) then (if t153 = true then (some (t152 == a1)) else (some false)) else (some false)) = some r := H
              have A22 := Aside0.mk A220
              clear A220
              by_cases c23 : (wrap64 ((wrap64 (t150)) - (wrap64 (a0_2)))) = (wrap64 (a1 - a0_0))
              · rw [if_pos c23] at H
                have c23b0 : ((wrap64 ((wrap64 (t150)) - (wrap64 (a0_2)))) == (wrap64 (a1 - a0_0))) = true := beq_iff_eq.mpr c23
                have c23b1 : ((wrap64 ((wrap64 (t150)) - (wrap64 (a0_2)))) != (wrap64 (a1 - a0_0))) = false := bne_eq_false_iff_eq.mpr c23
                clear c23
                by_cases c24 : t153 = true
                · subst c24
                  have H1 : (some (t152 == a1)) = some r := by rw [if_pos rfl] at H; exact H
                  clear H
                  have H := H1
                  clear H1
                  obtain rfl := Option.some.inj H
                  go_wp2_with (first | ((with_reducible refine gate_callee (f := 18) rfl ?_); refine goesL_ (some 46) rfl rfl Try.func18 (by kernel_rfl) rfl #[.slice Ao14 y143.length co14, .int .i32 t150] rfl (by (try simp only [List.map_toArray, List.map_cons, List.map_nil]); first | done | rfl | (simp only [List.length_drop, List.length_take]; rfl)) ?_; (with_reducible refine (ranges_Code.calls kj7 _ _ y143 t150 t152 true _ ?side1 ?side2 A22.out).mono ?_); (case side1 => repeat (first | exact (Kd.R_reads' HO_5.out).2.2 | (with_reducible refine Kd.C_alloc ?_ _) | (with_reducible refine Kd.C_drewN ?_ _) | (with_reducible refine Kd.C_drew ?_))); (case side2 => exact (Kd.R_reads' HO_5.out).2.1); rintro e w25 ⟨rfl, hb⟩; refine ⟨_, rfl, ?_⟩; have n0_ := Aside0.mk (Kd.R_below (by (with_reducible repeat (first | apply Kd.R_alloc | apply Kd.R_drewN | apply Kd.R_drew)); exact HO_5.out) hb); have n1_ := Aside0.mk (blk_below (g := gb141) (o := .cells #[.int .i64 a0_0, .int .i64 a0_1, .int .i32 a0_2] 44 (0, 0)) (by (with_reducible repeat (first | refine blk_drewN ?_ _ | refine blk_drew ?_ | refine blk_alloc ?_ _)); exact BK141.out) hb); have n2_ := Aside0.mk (below_step (by repeat (first | (with_reducible first | exact HB.out | apply below_alloc | apply pw_below_drewN | apply below_drew1 | refine below_set ?_ GE141.out) | exact HB.out)) hb); clear HO_5; clear BK141; clear HB; have HO_5 := n0_; have BK141 := n1_; have HB := n2_; clear n0_ n1_ n2_; (try clear hb); (try clear hb2); (try clear hk); (try clear hi); have hcz26_0 : w25.cell? ⟨gb141, 0, none⟩ = some (.int .i64 a0_0) := (blk_cell BK141.out 0).trans rfl; have hcz26_1 : w25.cell? ⟨gb141, 1, none⟩ = some (.int .i64 a0_1) := (blk_cell BK141.out 1).trans rfl; have hcz26_2 : w25.cell? ⟨gb141, 2, none⟩ = some (.int .i32 a0_2) := (blk_cell BK141.out 2).trans rfl; have hfz26_0 := blk_frozen BK141.out 0; have hfz26_1 := blk_frozen BK141.out 1; have hfz26_2 := blk_frozen BK141.out 2))
                  go_ret
                  exact ⟨by first | rfl | (simp [errW_none, errW_some] <;> rfl) | (simp [*, errW_none, errW_some] <;> rfl), by repeat (first | (with_reducible first | exact HB.out | apply below_alloc | apply pw_below_drewN | apply below_drew1 | refine below_set ?_ GE141.out) | exact HB.out)⟩
                · replace c24 := Bool.eq_false_iff.mpr c24
                  subst c24
                  have H1 : (some false) = some r := by rw [if_neg (show ¬ (false = true) by decide)] at H; exact H
                  clear H
                  have H := H1
                  clear H1
                  obtain rfl := Option.some.inj H
                  go_wp2_with (first | ((with_reducible refine gate_callee (f := 18) rfl ?_); refine goesL_ (some 46) rfl rfl Try.func18 (by kernel_rfl) rfl #[.slice Ao14 y143.length co14, .int .i32 t150] rfl (by (try simp only [List.map_toArray, List.map_cons, List.map_nil]); first | done | rfl | (simp only [List.length_drop, List.length_take]; rfl)) ?_; (with_reducible refine (ranges_Code.calls kj7 _ _ y143 t150 t152 false _ ?side1 ?side2 A22.out).mono ?_); (case side1 => repeat (first | exact (Kd.R_reads' HO_5.out).2.2 | (with_reducible refine Kd.C_alloc ?_ _) | (with_reducible refine Kd.C_drewN ?_ _) | (with_reducible refine Kd.C_drew ?_))); (case side2 => exact (Kd.R_reads' HO_5.out).2.1); rintro e w27 ⟨rfl, hb⟩; refine ⟨_, rfl, ?_⟩; have n0_ := Aside0.mk (Kd.R_below (by (with_reducible repeat (first | apply Kd.R_alloc | apply Kd.R_drewN | apply Kd.R_drew)); exact HO_5.out) hb); have n1_ := Aside0.mk (blk_below (g := gb141) (o := .cells #[.int .i64 a0_0, .int .i64 a0_1, .int .i32 a0_2] 44 (0, 0)) (by (with_reducible repeat (first | refine blk_drewN ?_ _ | refine blk_drew ?_ | refine blk_alloc ?_ _)); exact BK141.out) hb); have n2_ := Aside0.mk (below_step (by repeat (first | (with_reducible first | exact HB.out | apply below_alloc | apply pw_below_drewN | apply below_drew1 | refine below_set ?_ GE141.out) | exact HB.out)) hb); clear HO_5; clear BK141; clear HB; have HO_5 := n0_; have BK141 := n1_; have HB := n2_; clear n0_ n1_ n2_; (try clear hb); (try clear hb2); (try clear hk); (try clear hi); have hcz28_0 : w27.cell? ⟨gb141, 0, none⟩ = some (.int .i64 a0_0) := (blk_cell BK141.out 0).trans rfl; have hcz28_1 : w27.cell? ⟨gb141, 1, none⟩ = some (.int .i64 a0_1) := (blk_cell BK141.out 1).trans rfl; have hcz28_2 : w27.cell? ⟨gb141, 2, none⟩ = some (.int .i32 a0_2) := (blk_cell BK141.out 2).trans rfl; have hfz28_0 := blk_frozen BK141.out 0; have hfz28_1 := blk_frozen BK141.out 1; have hfz28_2 := blk_frozen BK141.out 2))
                  go_ret
                  exact ⟨by first | rfl | (simp [errW_none, errW_some] <;> rfl) | (simp [*, errW_none, errW_some] <;> rfl), by repeat (first | (with_reducible first | exact HB.out | apply below_alloc | apply pw_below_drewN | apply below_drew1 | refine below_set ?_ GE141.out) | exact HB.out)⟩
              · rw [if_neg c23] at H
                have c23b0 : ((wrap64 ((wrap64 (t150)) - (wrap64 (a0_2)))) == (wrap64 (a1 - a0_0))) = false := beq_eq_false_iff_ne.mpr c23
                have c23b1 : ((wrap64 ((wrap64 (t150)) - (wrap64 (a0_2)))) != (wrap64 (a1 - a0_0))) = true := bne_iff_ne.mpr c23
                obtain rfl := Option.some.inj H
                go_wp2_with (first | ((with_reducible refine gate_callee (f := 18) rfl ?_); refine goesL_ (some 46) rfl rfl Try.func18 (by kernel_rfl) rfl #[.slice Ao14 y143.length co14, .int .i32 t150] rfl (by (try simp only [List.map_toArray, List.map_cons, List.map_nil]); first | done | rfl | (simp only [List.length_drop, List.length_take]; rfl)) ?_; (with_reducible refine (ranges_Code.calls kj7 _ _ y143 t150 t152 t153 _ ?side1 ?side2 A22.out).mono ?_); (case side1 => repeat (first | exact (Kd.R_reads' HO_5.out).2.2 | (with_reducible refine Kd.C_alloc ?_ _) | (with_reducible refine Kd.C_drewN ?_ _) | (with_reducible refine Kd.C_drew ?_))); (case side2 => exact (Kd.R_reads' HO_5.out).2.1); rintro e w29 ⟨rfl, hb⟩; refine ⟨_, rfl, ?_⟩; have n0_ := Aside0.mk (Kd.R_below (by (with_reducible repeat (first | apply Kd.R_alloc | apply Kd.R_drewN | apply Kd.R_drew)); exact HO_5.out) hb); have n1_ := Aside0.mk (blk_below (g := gb141) (o := .cells #[.int .i64 a0_0, .int .i64 a0_1, .int .i32 a0_2] 44 (0, 0)) (by (with_reducible repeat (first | refine blk_drewN ?_ _ | refine blk_drew ?_ | refine blk_alloc ?_ _)); exact BK141.out) hb); have n2_ := Aside0.mk (below_step (by repeat (first | (with_reducible first | exact HB.out | apply below_alloc | apply pw_below_drewN | apply below_drew1 | refine below_set ?_ GE141.out) | exact HB.out)) hb); clear HO_5; clear BK141; clear HB; have HO_5 := n0_; have BK141 := n1_; have HB := n2_; clear n0_ n1_ n2_; (try clear hb); (try clear hb2); (try clear hk); (try clear hi); have hcz30_0 : w29.cell? ⟨gb141, 0, none⟩ = some (.int .i64 a0_0) := (blk_cell BK141.out 0).trans rfl; have hcz30_1 : w29.cell? ⟨gb141, 1, none⟩ = some (.int .i64 a0_1) := (blk_cell BK141.out 1).trans rfl; have hcz30_2 : w29.cell? ⟨gb141, 2, none⟩ = some (.int .i32 a0_2) := (blk_cell BK141.out 2).trans rfl; have hfz30_0 := blk_frozen BK141.out 0; have hfz30_1 := blk_frozen BK141.out 1; have hfz30_2 := blk_frozen BK141.out 2))
                go_ret
                exact ⟨by first | rfl | (simp [errW_none, errW_some] <;> rfl) | (simp [*, errW_none, errW_some] <;> rfl), by repeat (first | (with_reducible first | exact HB.out | apply below_alloc | apply pw_below_drewN | apply below_drew1 | refine below_set ?_ GE141.out) | exact HB.out)⟩
            · replace c21 := Bool.eq_false_iff.mpr c21
              subst c21
              have H1 : (some (t150 == 0)) = some r := by rw [if_neg (show ¬ (false = true) by decide)] at H; exact H
              clear H
              have H := H1
              clear H1
              obtain rfl := Option.some.inj H
              go_wp2
              go_ret
              exact ⟨by first | rfl | (simp [errW_none, errW_some] <;> rfl) | (simp [*, errW_none, errW_some] <;> rfl), by repeat (first | (with_reducible first | exact HB.out | apply below_alloc | apply pw_below_drewN | apply below_drew1 | refine below_set ?_ GE141.out) | exact HB.out)⟩
    · rw [if_neg c6] at H
      have c6b0 : (t146 == 0) = false := beq_eq_false_iff_ne.mpr c6
      have c6b1 : (t146 != 0) = true := bne_iff_ne.mpr c6
      replace H := Option.bind_eq_some_iff.mp H
      obtain ⟨t147, A310, H⟩ := H
      replace H : (some ((t147.length : Int) == 0)) = some r := H
      have A31 := Aside0.mk A310
      clear A310
      obtain rfl := Option.some.inj H
      go_enter Try.func6, Try.ntmps6
      go_wp2_with (first | ((with_reducible refine gate_dst (N := 2) rfl ?_); refine box_event ?hg (N := 2) ?hd (cs := #[.int .i64 a0_0, .int .i64 a0_1, .int .i32 a0_2]) (t := 44) ?hr ?_; (case hd => rfl); (case hg => rfl); (case hr => first | (go_simp; done) | (go_simp; rfl)); intro gb141 hg w32 hbox hb; have n0_ := Aside0.mk (below_step (by repeat (first | (with_reducible first | exact HB.out | apply below_alloc | apply pw_below_drewN | apply below_drew1) | exact HB.out)) hb); have n1_ := Aside0.mk (hbox); have n2_ := Aside0.mk ((by rw [hg]; exact (below_size (by repeat (first | (with_reducible first | exact HB.out | apply below_alloc | apply pw_below_drewN | apply below_drew1) | exact HB.out))) : w.heap.size ≤ gb141)); have n3_ := Aside0.mk ((by rw [hg]; exact (below_size (by repeat (first | (with_reducible first | exact HB.out | apply below_alloc | apply pw_below_drewN | apply below_drew1) | exact HB.out))) : w.heap.size ≤ gb141)); clear HB; have HB := n0_; have BK141 := n1_; have GW141 := n2_; have GE141 := n3_; clear n0_ n1_ n2_ n3_; clear hb hbox hg) | ((with_reducible refine gate_callee (f := 20) rfl ?_); refine goesL_ (some 10) rfl rfl Try.func20 (by kernel_rfl) rfl #[] rfl (by (try simp only [List.map_toArray, List.map_cons, List.map_nil]); first | done | rfl | (simp only [List.length_drop, List.length_take]; rfl)) ?_; (with_reducible refine (dragomanlaw06_works.calls k  true _ A3.out).mono ?_); rintro e w33 ⟨rfl, hb⟩; refine ⟨_, rfl, ?_⟩; have n0_ := Aside0.mk (blk_below (g := gb141) (o := .cells #[.int .i64 a0_0, .int .i64 a0_1, .int .i32 a0_2] 44 (0, 0)) (by (with_reducible repeat (first | refine blk_drewN ?_ _ | refine blk_drew ?_ | refine blk_alloc ?_ _)); exact BK141.out) hb); have n1_ := Aside0.mk (below_step (by repeat (first | (with_reducible first | exact HB.out | apply below_alloc | apply pw_below_drewN | apply below_drew1 | refine below_set ?_ GE141.out) | exact HB.out)) hb); clear BK141; clear HB; have BK141 := n0_; have HB := n1_; clear n0_ n1_; (try clear hb); (try clear hb2); (try clear hk); (try clear hi); have hcz34_0 : w33.cell? ⟨gb141, 0, none⟩ = some (.int .i64 a0_0) := (blk_cell BK141.out 0).trans rfl; have hcz34_1 : w33.cell? ⟨gb141, 1, none⟩ = some (.int .i64 a0_1) := (blk_cell BK141.out 1).trans rfl; have hcz34_2 : w33.cell? ⟨gb141, 2, none⟩ = some (.int .i32 a0_2) := (blk_cell BK141.out 2).trans rfl; have hfz34_0 := blk_frozen BK141.out 0; have hfz34_1 := blk_frozen BK141.out 1; have hfz34_2 := blk_frozen BK141.out 2) | ((with_reducible refine gate_dst (N := 13) rfl ?_); refine Kd.R_lit k44 _ 44 ?hg (N := 13) ?hd (xs := ([(⟨a0_0, a0_1, a0_2⟩ : S44)] : List (S44))) (inner := [.int .i64 a0_0, .int .i64 a0_1, .int .i32 a0_2]) (ok := fun _ => True) (okp := fun _ => True) ?hr ?hp (fun _ hk => hk) trivial (Below.refl _ _) (Nat.le_refl _) (by simp) ?_; (case hd => rfl); (case hg => rfl); (case hr => first | (go_simp; done) | (go_simp; rfl)); (case hp => exact (Reps.c3 (show Kd.M k44 _ _ _ (⟨a0_0, a0_1, a0_2⟩ : S44) [.int .i64 a0_0, .int .i64 a0_1, .int .i32 a0_2] from (k44_mkM _ _ _ (⟨a0_0, a0_1, a0_2⟩ : S44) )) (Reps.none _ _))); intro v144 w35 ho36 hb hg_ hnew_; clear hg_ hnew_; (first | rw [← Ny143.out] at ho36 | (simp only [Int.reduceToNat] at ho36; rw [← Ny143.out] at ho36)); have n0_ := Aside0.mk (Kd.R_lower (Kd.R_newB ho36 (g := gb141) (o := .cells #[.int .i64 a0_0, .int .i64 a0_1, .int .i32 a0_2] 44 (0, 0)) (by (with_reducible repeat (first | refine blk_drewN ?_ _ | refine blk_drew ?_ | refine blk_alloc ?_ _)); exact BK141.out)) (below_size (by repeat (first | (with_reducible first | exact HB.out | apply below_alloc | apply pw_below_drewN | apply below_drew1 | refine below_set ?_ GE141.out) | exact HB.out)))); have n1_ := Aside0.mk (blk_below (g := gb141) (o := .cells #[.int .i64 a0_0, .int .i64 a0_1, .int .i32 a0_2] 44 (0, 0)) (by (with_reducible repeat (first | refine blk_drewN ?_ _ | refine blk_drew ?_ | refine blk_alloc ?_ _)); exact BK141.out) hb); have n2_ := Aside0.mk (below_step (by repeat (first | (with_reducible first | exact HB.out | apply below_alloc | apply pw_below_drewN | apply below_drew1 | refine below_set ?_ GE141.out) | exact HB.out)) hb); clear BK141; clear HB; have HO145 := n0_; have BK141 := n1_; have HB := n2_; clear n0_ n1_ n2_; clear hb ho36; obtain ⟨Ao37, co37, eo37⟩ := Kd.R_slice HO145.out; subst eo37) | ((with_reducible refine gate_callee (f := 13) rfl ?_); refine goesL_ (some 15) rfl rfl Try.func13 (by kernel_rfl) rfl #[.slice Ao37 y143.length co37] rfl (by (try simp only [List.map_toArray, List.map_cons, List.map_nil]); first | done | rfl | (simp only [List.length_drop, List.length_take]; rfl)) ?_; (with_reducible refine (ranges_Check.calls k _ _ y143 t146 _ ?side1 ?side2 A5.out).mono ?_); (case side1 => repeat (first | exact (Kd.R_reads' HO145.out).2.2 | (with_reducible refine Kd.C_alloc ?_ _) | (with_reducible refine Kd.C_drewN ?_ _) | (with_reducible refine Kd.C_drew ?_))); (case side2 => exact (Kd.R_reads' HO145.out).2.1); rintro e w38 ⟨rfl, hb⟩; refine ⟨_, rfl, ?_⟩; have n0_ := Aside0.mk (Kd.R_below (by (with_reducible repeat (first | apply Kd.R_alloc | apply Kd.R_drewN | apply Kd.R_drew)); exact HO145.out) hb); have n1_ := Aside0.mk (blk_below (g := gb141) (o := .cells #[.int .i64 a0_0, .int .i64 a0_1, .int .i32 a0_2] 44 (0, 0)) (by (with_reducible repeat (first | refine blk_drewN ?_ _ | refine blk_drew ?_ | refine blk_alloc ?_ _)); exact BK141.out) hb); have n2_ := Aside0.mk (below_step (by repeat (first | (with_reducible first | exact HB.out | apply below_alloc | apply pw_below_drewN | apply below_drew1 | refine below_set ?_ GE141.out) | exact HB.out)) hb); clear HO145; clear BK141; clear HB; have HO145 := n0_; have BK141 := n1_; have HB := n2_; clear n0_ n1_ n2_; (try clear hb); (try clear hb2); (try clear hk); (try clear hi)) | ((with_reducible refine gate_callee (f := 15) rfl ?_); refine goesL_ (some 18) rfl rfl Try.func15 (by kernel_rfl) rfl #[.slice Ao37 y143.length co37] rfl (by (try simp only [List.map_toArray, List.map_cons, List.map_nil]); first | done | rfl | (simp only [List.length_drop, List.length_take]; rfl)) ?_; (with_reducible refine (ranges_Pairs.calls k _ _ y143 t147 _ ?side1 ?side2 A31.out).mono ?_); (case side1 => repeat (first | exact (Kd.R_reads' HO145.out).2.2 | (with_reducible refine Kd.C_alloc ?_ _) | (with_reducible refine Kd.C_drewN ?_ _) | (with_reducible refine Kd.C_drew ?_))); (case side2 => exact (Kd.R_reads' HO145.out).2.1); rintro e w39 ⟨v148, rfl, ho0, hb⟩; refine ⟨_, rfl, ?_⟩; have n0_ := Aside0.mk (Kd.R_below (by (with_reducible repeat (first | apply Kd.R_alloc | apply Kd.R_drewN | apply Kd.R_drew)); exact HO145.out) hb); have n1_ := Aside0.mk (Kd.R_lower ho0 (below_size (by repeat (first | (with_reducible first | exact HB.out | apply below_alloc | apply pw_below_drewN | apply below_drew1 | refine below_set ?_ GE141.out) | exact HB.out)))); have n2_ := Aside0.mk (blk_below (g := gb141) (o := .cells #[.int .i64 a0_0, .int .i64 a0_1, .int .i32 a0_2] 44 (0, 0)) (by (with_reducible repeat (first | refine blk_drewN ?_ _ | refine blk_drew ?_ | refine blk_alloc ?_ _)); exact BK141.out) hb); have n3_ := Aside0.mk (below_step (by repeat (first | (with_reducible first | exact HB.out | apply below_alloc | apply pw_below_drewN | apply below_drew1 | refine below_set ?_ GE141.out) | exact HB.out)) hb); clear HO145; clear BK141; clear HB; have HO145 := n0_; have HO149 := n1_; have BK141 := n2_; have HB := n3_; clear n0_ n1_ n2_ n3_; (try clear hb); (try clear hb2); (try clear hk); (try clear hi); (try clear ho0); obtain ⟨Ao40, co40, eo40⟩ := Kd.R_slice HO149.out; subst eo40))
      go_ret
      exact ⟨by first | rfl | (simp [errW_none, errW_some] <;> rfl) | (simp [*, errW_none, errW_some] <;> rfl), by repeat (first | (with_reducible first | exact HB.out | apply below_alloc | apply pw_below_drewN | apply below_drew1 | refine below_set ?_ GE141.out) | exact HB.out)⟩
  · replace c4 := Bool.eq_false_iff.mpr c4
    subst c4
    have H1 : (some false) = some r := by rw [if_neg (show ¬ (false = true) by decide)] at H; exact H
    clear H
    have H := H1
    clear H1
    obtain rfl := Option.some.inj H
    go_enter Try.func6, Try.ntmps6
    go_wp2_with (first | ((with_reducible refine gate_dst (N := 2) rfl ?_); refine box_event ?hg (N := 2) ?hd (cs := #[.int .i64 a0_0, .int .i64 a0_1, .int .i32 a0_2]) (t := 44) ?hr ?_; (case hd => rfl); (case hg => rfl); (case hr => first | (go_simp; done) | (go_simp; rfl)); intro gb141 hg w41 hbox hb; have n0_ := Aside0.mk (below_step (by repeat (first | (with_reducible first | exact HB.out | apply below_alloc | apply pw_below_drewN | apply below_drew1) | exact HB.out)) hb); have n1_ := Aside0.mk (hbox); have n2_ := Aside0.mk ((by rw [hg]; exact (below_size (by repeat (first | (with_reducible first | exact HB.out | apply below_alloc | apply pw_below_drewN | apply below_drew1) | exact HB.out))) : w.heap.size ≤ gb141)); have n3_ := Aside0.mk ((by rw [hg]; exact (below_size (by repeat (first | (with_reducible first | exact HB.out | apply below_alloc | apply pw_below_drewN | apply below_drew1) | exact HB.out))) : w.heap.size ≤ gb141)); clear HB; have HB := n0_; have BK141 := n1_; have GW141 := n2_; have GE141 := n3_; clear n0_ n1_ n2_ n3_; clear hb hbox hg) | ((with_reducible refine gate_callee (f := 20) rfl ?_); refine goesL_ (some 10) rfl rfl Try.func20 (by kernel_rfl) rfl #[] rfl (by (try simp only [List.map_toArray, List.map_cons, List.map_nil]); first | done | rfl | (simp only [List.length_drop, List.length_take]; rfl)) ?_; (with_reducible refine (dragomanlaw06_works.calls k  false _ A3.out).mono ?_); rintro e w42 ⟨rfl, hb⟩; refine ⟨_, rfl, ?_⟩; have n0_ := Aside0.mk (blk_below (g := gb141) (o := .cells #[.int .i64 a0_0, .int .i64 a0_1, .int .i32 a0_2] 44 (0, 0)) (by (with_reducible repeat (first | refine blk_drewN ?_ _ | refine blk_drew ?_ | refine blk_alloc ?_ _)); exact BK141.out) hb); have n1_ := Aside0.mk (below_step (by repeat (first | (with_reducible first | exact HB.out | apply below_alloc | apply pw_below_drewN | apply below_drew1 | refine below_set ?_ GE141.out) | exact HB.out)) hb); clear BK141; clear HB; have BK141 := n0_; have HB := n1_; clear n0_ n1_; (try clear hb); (try clear hb2); (try clear hk); (try clear hi)))
    go_ret
    exact ⟨by first | rfl | (simp [errW_none, errW_some] <;> rfl) | (simp [*, errW_none, errW_some] <;> rfl), by repeat (first | (with_reducible first | exact HB.out | apply below_alloc | apply pw_below_drewN | apply below_drew1 | refine below_set ?_ GE141.out) | exact HB.out)⟩

end Go.Proofs.Ytnapldildjnchaa.PRangesOne
