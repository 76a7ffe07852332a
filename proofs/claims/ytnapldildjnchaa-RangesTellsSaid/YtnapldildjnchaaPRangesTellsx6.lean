/- RangesTells: what the functions answer, and their walks; ranges.Scalar is given by YtnapldildjnchaaGRangesTells. Written by a program of ours over the print. -/
import Derived.Test.YtnapldildjnchaaPRangesTellsx0
import Derived.Test.YtnapldildjnchaaPRangesTellsx4
import Derived.Test.YtnapldildjnchaaPRangesTellsx5
namespace Go.Proofs.Ytnapldildjnchaa.PRangesTells
open Go.RowKit Go.Proofs.YtnapldildjnchaaW.PrintWords Go.Proofs.YtnapldildjnchaaW.PrintLast Go.Proofs.YtnapldildjnchaaW.PrintMore
attribute [local go_sem] max2_int min2_int max_two min_two max_three min_three max_four min_four   -- for this text's walks alone
set_option linter.unusedVariables false
set_option linter.unusedSimpArgs false

/-! ### dragomanref06_Pairs: function 14 -/
mutual
def dragomanref06_Pairs.l0 : Nat → List (S44) → List (S41) → Int → Option ((List (S41)))
  | 0, _, _, _ => none
  | k + 1, x0, x3, x4 => if x4 < (x0.length : Int) then (if 0 ≤ x4 then (dragomanref06_Pairs.l1 k x0 x3 x4 ((rd_T44 x0 x4).f0)) else (none)) else (some x3)
def dragomanref06_Pairs.l1 : Nat → List (S44) → List (S41) → Int → Int → Option ((List (S41)))
  | 0, _, _, _, _ => none
  | k + 1, x0, x3, x4, x5 => if 0 ≤ x4 then (if x4 < (x0.length : Int) then (if x5 ≤ ((rd_T44 x0 x4).f1) then (if x3.length < 8796093022208 then (dragomanref06_Pairs.l1 k x0 (x3 ++ [(⟨x5, wrap32 (((rd_T44 x0 x4).f2) + (wrap32 (wrap64 (x5 - ((rd_T44 x0 x4).f0)))))⟩ : S41)]) x4 (wrap64 (x5 + 1))) else (none)) else (dragomanref06_Pairs.l0 k x0 x3 (wrap64 (x4 + 1)))) else (none)) else (none)
end
def dragomanref06_Pairs.f (k : Nat) (l0 : List (S44)) : Option ((List (S41))) := (dragomanref06_Check.f k l0).bind fun t119 => (if t119 = 0 then (dragomanref06_Pairs.l0 k l0 ([] : List (S41)) 0) else (some ([] : List (S41))))
theorem dragomanref06_Pairs.mono_l : ∀ k, (∀ y0 y1 y2, LeO (dragomanref06_Pairs.l0 k y0 y1 y2) (dragomanref06_Pairs.l0 (k + 1) y0 y1 y2)) ∧ (∀ y0 y1 y2 y3, LeO (dragomanref06_Pairs.l1 k y0 y1 y2 y3) (dragomanref06_Pairs.l1 (k + 1) y0 y1 y2 y3))
  | 0 => ⟨fun _ _ _ r h => by simp [dragomanref06_Pairs.l0] at h, fun _ _ _ _ r h => by simp [dragomanref06_Pairs.l1] at h⟩
  | k + 1 => by
    obtain ⟨ih0, ih1⟩ := dragomanref06_Pairs.mono_l k
    refine ⟨?_, ?_⟩
    · intro y0 y1 y2
      unfold dragomanref06_Pairs.l0
      repeat' first
      | (with_reducible exact ih0 _ _ _)
      | (with_reducible exact ih1 _ _ _ _)
      | (with_reducible exact dragomanref06_Check.mono _ _)
      | (with_reducible exact LeO.refl _)
      | (with_reducible exact LeO.none _)
      | (with_reducible refine LeO.ite ?_ ?_)
      | (with_reducible refine LeO.bind ?_ (fun _ => ?_))
      | exact ih0 _ _ _
      | exact ih1 _ _ _ _
      | exact dragomanref06_Check.mono _ _
      | exact LeO.none _
      | refine LeO.ite ?_ ?_
      | refine LeO.bind ?_ (fun _ => ?_)
    · intro y0 y1 y2 y3
      unfold dragomanref06_Pairs.l1
      repeat' first
      | (with_reducible exact ih0 _ _ _)
      | (with_reducible exact ih1 _ _ _ _)
      | (with_reducible exact dragomanref06_Check.mono _ _)
      | (with_reducible exact LeO.refl _)
      | (with_reducible exact LeO.none _)
      | (with_reducible refine LeO.ite ?_ ?_)
      | (with_reducible refine LeO.bind ?_ (fun _ => ?_))
      | exact ih0 _ _ _
      | exact ih1 _ _ _ _
      | exact dragomanref06_Check.mono _ _
      | exact LeO.none _
      | refine LeO.ite ?_ ?_
      | refine LeO.bind ?_ (fun _ => ?_)
theorem dragomanref06_Pairs.mono : ∀ a0 k, LeO (dragomanref06_Pairs.f k a0) (dragomanref06_Pairs.f (k + 1) a0) := by
  intro a0 k
  obtain ⟨ih0, ih1⟩ := dragomanref06_Pairs.mono_l k
  unfold dragomanref06_Pairs.f
  repeat' first
      | (with_reducible exact ih0 _ _ _)
      | (with_reducible exact ih1 _ _ _ _)
      | (with_reducible exact dragomanref06_Check.mono _ _)
      | (with_reducible exact LeO.refl _)
      | (with_reducible exact LeO.none _)
      | (with_reducible refine LeO.ite ?_ ?_)
      | (with_reducible refine LeO.bind ?_ (fun _ => ?_))
      | exact ih0 _ _ _
      | exact ih1 _ _ _ _
      | exact dragomanref06_Check.mono _ _
      | exact LeO.none _
      | refine LeO.ite ?_ ?_
      | refine LeO.bind ?_ (fun _ => ?_)
def dragomanref06_Pairs.T10 : Bool × List (List Nat × List Nat) := (true, [([], []), ([], []), ([], []), ([], []), ([2, 3], [2, 3]), ([4], [4]), ([5], [5]), ([], []), ([], []), ([], []), ([8, 9], [8, 9]), ([10], [10]), ([11], [11]), ([7, 12], [7, 12]), ([13], [13]), ([6, 14], [6, 14]), ([1, 15], [1, 15]), ([16], [16]), ([0, 17], [0, 17]), ([18, 18, 0, 1, 2, 3, 4, 5, 6, 7, 8, 9, 10, 11, 12, 13, 14, 15, 16, 17, 18], [0, 18])])
def dragomanref06_Pairs.B10 : List Nat := [0, 0, 0, 0, 12, 28, 60, 0, 0, 0, 768, 1792, 3840, 8064, 16256, 32764, 65534, 131070, 262143, 524287]
theorem dragomanref06_Pairs.tab10 : rtab .any (opsOf Try.f14 10) = dragomanref06_Pairs.T10 := by kernel_rfl
theorem dragomanref06_Pairs.bits10 : waitsOk dragomanref06_Pairs.T10.2 dragomanref06_Pairs.B10 = true := by kernel_rfl
set_option maxHeartbeats 8000000 in
set_option maxRecDepth 100000 in
theorem dragomanref06_Pairs.calls (k : Nat) (A0 : Option Addr) (c0 : Nat) (l0 : List (S44)) (r : List (S41)) (w : World) (hr0 : Kd.C k44 w A0 l0.length l0) (hc0 : l0.length ≤ c0) (h : dragomanref06_Pairs.f k l0 = some r) :
    Calls Try.prog 14 #[.slice A0 l0.length c0] w fun e w' => ∃ v0_ : Value, e = .returned (v0_) ∧ Kd.R k41 41 w' w.heap.size (fun _ => True) v0_ r ∧ Below w.heap.size w w' := by
  have hu41 := Try.underlying41
  have HR0 := Aside0.mk hr0
  have HC0 := Aside0.mk hc0
  clear hr0 hc0
  have HB := Aside0.mk (Below.refl w.heap.size w)
  have H : ((dragomanref06_Check.f k l0).bind fun t119 => (if t119 = 0 then (dragomanref06_Pairs.l0 k l0 ([] : List (S41)) 0) else (some ([] : List (S41))))) = some r := h
  clear h
  replace H := Option.bind_eq_some_iff.mp H
  obtain ⟨t119, A20, H⟩ := H
  replace H : (if t119 = 0 then (dragomanref06_Pairs.l0 k l0 ([] : List (S41)) 0) else (some ([] : List (S41)))) = some r := H
  have A2 := Aside0.mk A20
  clear A20
  by_cases c3 : t119 = 0
  · rw [if_pos c3] at H
    have c3b0 : (t119 == 0) = true := beq_iff_eq.mpr c3
    have c3b1 : (t119 != 0) = false := bne_eq_false_iff_eq.mpr c3
    clear c3
    have H' := Aside0.mk H
    clear H
    go_enter Try.func14, Try.ntmps14
    go_wp2_with (first | ((with_reducible refine gate_callee (f := 12) rfl ?_); refine goesL_ (some 7) rfl rfl Try.func12 (by kernel_rfl) rfl #[.slice A0 l0.length c0] rfl (by (try simp only [List.map_toArray, List.map_cons, List.map_nil]); first | done | rfl | (simp only [List.length_drop, List.length_take]; rfl)) ?_; (with_reducible refine (dragomanref06_Check.calls k _ _ l0 t119 _ ?side1 ?side2 A2.out).mono ?_); (case side1 => repeat (first | exact HR0.out | (with_reducible refine Kd.C_alloc ?_ _) | (with_reducible refine Kd.C_drewN ?_ _) | (with_reducible refine Kd.C_drew ?_))); (case side2 => exact HC0.out); rintro e w4 ⟨rfl, hb⟩; refine ⟨_, rfl, ?_⟩; have n0_ := Aside0.mk (below_step (by repeat (first | (with_reducible first | exact HB.out | apply below_alloc | apply pw_below_drewN | apply below_drew1) | exact HB.out)) hb); clear HB; have HB := n0_; clear n0_; (try clear hb); (try clear hb2); (try clear hk); (try clear hi)))
    go_loopg [3, 4] k (fun kq v3 v4 w' => ∃ (x3_1 : List (S41)) (x4_1 : Int), v4 = .int .i64 x4_1 ∧ Aside0 (dragomanref06_Pairs.l0 kq l0 x3_1 x4_1 = some r) ∧ Aside0 (kq ≤ k) ∧ Aside0 (Kd.R k41 41 w' w.heap.size (fun _ => True) v3 x3_1) ∧ Aside0 (Below w.heap.size w w'))
    case atStart => exact ⟨(([] : List (S41))), (0), (by first | rfl | (simp; done) | (simp [*]; done)), H', ⟨Nat.le_refl _⟩, ⟨by first | exact Kd.R_nil _ _ _ _ _ | exact Kd.N_nil _ _ _ _ _ | exact Kd.V_nil _ _ _ _ _ | exact Kd.Q_nil _ _ _ _ _ | exact Kd.S_nil _ _ _ _ _⟩, ⟨by repeat (first | (with_reducible first | exact HB.out | apply below_alloc | apply pw_below_drewN | apply below_drew1) | exact HB.out)⟩⟩
    case round =>
      clear H'
      try clear c1
      try clear p2
      try clear c3
      try clear c3b0
      try clear c3b1
      obtain ⟨x3_1, x4_1, rfl, HA, HK1, HO_3, HB⟩ := hrel
      cases gk with
      | zero => exact absurd HA.out (by simp [dragomanref06_Pairs.l0])
      | succ k1 =>
        have H := HA.out
        clear HA
        simp only [dragomanref06_Pairs.l0] at H
        by_cases c5 : x4_1 < (l0.length : Int)
        · rw [if_pos c5] at H
          have c5b0 : decide (x4_1 < (l0.length : Int)) = true := decide_eq_true c5
          clear c5
          by_cases c6 : 0 ≤ x4_1
          · rw [if_pos c6] at H
            have c6b0 : decide (0 ≤ x4_1) = true := decide_eq_true c6
            clear c6
            have H' := Aside0.mk H
            clear H
            have p120 : 0 ≤ (x4_1 : Int) := of_decide_eq_true (by first | (with_reducible assumption) | assumption)
            have q120 : x4_1 < (l0.length : Int) := of_decide_eq_true (by first | (with_reducible assumption) | assumption)
            obtain ⟨ad120, e120, hx120_0, hx120_1, hx120_2⟩ := at_T44 HR0.out x4_1 p120 q120
            cases e120
            replace hx120_0 := (HB.out.cell (World.block_lt_of_cell? w _ hx120_0)).trans hx120_0
            replace hx120_1 := (HB.out.cell (World.block_lt_of_cell? w _ hx120_1)).trans hx120_1
            replace hx120_2 := (HB.out.cell (World.block_lt_of_cell? w _ hx120_2)).trans hx120_2
            replace p120 := eq_true p120
            replace q120 := eq_true q120
            go_wp2
            go_loopg [3, 5] k1 (fun kq v3 v5 w' => ∃ (x3_2 : List (S41)) (x5_2 : Int), v5 = .int .i64 x5_2 ∧ Aside0 (dragomanref06_Pairs.l1 kq l0 x3_2 x4_1 x5_2 = some r) ∧ Aside0 (kq ≤ k1) ∧ Aside0 (Kd.R k41 41 w' w.heap.size (fun _ => True) v3 x3_2) ∧ Aside0 (Below w.heap.size w w'))
            case atStart => exact ⟨(x3_1), ((rd_T44 l0 x4_1).f0), (by first | rfl | (simp; done) | (simp [*]; done)), H', ⟨Nat.le_refl _⟩, ⟨by (with_reducible repeat (first | apply Kd.R_alloc | apply Kd.R_drewN | apply Kd.R_drew)); exact HO_3.out⟩, ⟨by repeat (first | (with_reducible first | exact HB.out | apply below_alloc | apply pw_below_drewN | apply below_drew1) | exact HB.out)⟩⟩
            case round =>
              clear H'
              try clear c1
              try clear p1
              try clear q1
              try clear hx1
              try clear p2
              try clear c3
              try clear c3b0
              try clear c3b1
              try clear c5
              try clear c5b0
              try clear c6
              try clear c6b0
              try clear hx120_0
              try clear hx120_1
              try clear hx120_2
              try clear p120
              try clear p2
              try clear q120
              obtain ⟨x3_2, x5_2, rfl, HA, HK2, HO_3, HB⟩ := hrel
              cases gk with
              | zero => exact absurd HA.out (by simp [dragomanref06_Pairs.l1])
              | succ k2 =>
                have H := HA.out
                clear HA
                simp only [dragomanref06_Pairs.l1] at H
                by_cases c7 : 0 ≤ x4_1
                · rw [if_pos c7] at H
                  have c7b0 : decide (0 ≤ x4_1) = true := decide_eq_true c7
                  clear c7
                  by_cases c8 : x4_1 < (l0.length : Int)
                  · rw [if_pos c8] at H
                    have c8b0 : decide (x4_1 < (l0.length : Int)) = true := decide_eq_true c8
                    clear c8
                    by_cases c9 : x5_2 ≤ ((rd_T44 l0 x4_1).f1)
                    · rw [if_pos c9] at H
                      have c9b0 : decide (x5_2 ≤ ((rd_T44 l0 x4_1).f1)) = true := decide_eq_true c9
                      clear c9
                      by_cases c10 : x3_2.length < 8796093022208
                      · rw [if_pos c10] at H
                        have LMc10 := Aside0.mk c10
                        clear c10
                        obtain ⟨y124, hy124⟩ : ∃ y_ : List (S41), y_ = (x3_2 ++ [(⟨x5_2, wrap32 (((rd_T44 l0 x4_1).f2) + (wrap32 (wrap64 (x5_2 - ((rd_T44 l0 x4_1).f0)))))⟩ : S41)]) := ⟨_, rfl⟩
                        replace H : (dragomanref06_Pairs.l1 k2 l0 y124 x4_1 (wrap64 (x5_2 + 1))) = some r := by first | (rw [hy124]; with_reducible exact H) | (have H2_ := (Option.bind_some _ _).symm.trans H; rw [hy124]; with_reducible exact H2_) | (have H2_ := (Option.bind_some _ _).symm.trans H; with_reducible exact H2_) | with_reducible exact H | (rw [hy124]; exact H) | exact H
                        have Ny124 := Aside0.mk hy124
                        clear hy124
                        have H' := Aside0.mk H
                        clear H
                        have p121 : 0 ≤ (x4_1 : Int) := of_decide_eq_true (by first | (with_reducible assumption) | assumption)
                        have q121 : x4_1 < (l0.length : Int) := of_decide_eq_true (by first | (with_reducible assumption) | assumption)
                        obtain ⟨ad121, e121, hx121_0, hx121_1, hx121_2⟩ := at_T44 HR0.out x4_1 p121 q121
                        obtain rfl : ad120 = ad121 := (by injection e121)
                        replace hx121_0 := (HB.out.cell (World.block_lt_of_cell? w _ hx121_0)).trans hx121_0
                        replace hx121_1 := (HB.out.cell (World.block_lt_of_cell? w _ hx121_1)).trans hx121_1
                        replace hx121_2 := (HB.out.cell (World.block_lt_of_cell? w _ hx121_2)).trans hx121_2
                        replace p121 := eq_true p121
                        replace q121 := eq_true q121
                        try go_wp2
                        have n0_ := Aside0.mk (Kd.R_drew HO_3.out)
                        have n1_ := Aside0.mk (below_drew1 HB.out)
                        clear HO_3
                        clear HB
                        have HO_3 := n0_
                        have HB := n1_
                        clear n0_ n1_
                        have p122 : 0 ≤ (x4_1 : Int) := of_decide_eq_true (by first | (with_reducible assumption) | assumption)
                        have q122 : x4_1 < (l0.length : Int) := of_decide_eq_true (by first | (with_reducible assumption) | assumption)
                        obtain ⟨ad122, e122, hx122_0, hx122_1, hx122_2⟩ := at_T44 HR0.out x4_1 p122 q122
                        have hw122_2 := hx122_2
                        have hw122_1 := hx122_1
                        have hw122_0 := hx122_0
                        obtain rfl : ad120 = ad122 := (by injection e122)
                        replace hx122_0 := (HB.out.cell (World.block_lt_of_cell? w _ hx122_0)).trans hx122_0
                        replace hx122_1 := (HB.out.cell (World.block_lt_of_cell? w _ hx122_1)).trans hx122_1
                        replace hx122_2 := (HB.out.cell (World.block_lt_of_cell? w _ hx122_2)).trans hx122_2
                        replace p122 := eq_true p122
                        replace q122 := eq_true q122
                        have p123 : 0 ≤ (x4_1 : Int) := of_decide_eq_true (by first | (with_reducible assumption) | assumption)
                        have q123 : x4_1 < (l0.length : Int) := of_decide_eq_true (by first | (with_reducible assumption) | assumption)
                        obtain ⟨ad123, e123, hx123_0, hx123_1, hx123_2⟩ := at_T44 HR0.out x4_1 p123 q123
                        have hw123_2 := hx123_2
                        have hw123_1 := hx123_1
                        have hw123_0 := hx123_0
                        obtain rfl : ad120 = ad123 := (by injection e123)
                        replace hx123_0 := (HB.out.cell (World.block_lt_of_cell? w _ hx123_0)).trans hx123_0
                        replace hx123_1 := (HB.out.cell (World.block_lt_of_cell? w _ hx123_1)).trans hx123_1
                        replace hx123_2 := (HB.out.cell (World.block_lt_of_cell? w _ hx123_2)).trans hx123_2
                        replace p123 := eq_true p123
                        replace q123 := eq_true q123
                        refine start_ (n := 20) (S := fun w' => w'.cell? (ad120.add ((x4_1).toNat * 3)) = some (.int .i64 ((rd_T44 l0 x4_1).f0)) ∧ w'.cell? ⟨(ad120.add ((x4_1).toNat * 3)).block, (ad120.add ((x4_1).toNat * 3)).off + 1, none⟩ = some (.int .i64 ((rd_T44 l0 x4_1).f1)) ∧ w'.cell? ⟨(ad120.add ((x4_1).toNat * 3)).block, (ad120.add ((x4_1).toNat * 3)).off + 2, none⟩ = some (.int .i32 ((rd_T44 l0 x4_1).f2)) ∧ w'.cell? (ad120.add ((x4_1).toNat * 3)) = some (.int .i64 ((rd_T44 l0 x4_1).f0)) ∧ w'.cell? ⟨(ad120.add ((x4_1).toNat * 3)).block, (ad120.add ((x4_1).toNat * 3)).off + 1, none⟩ = some (.int .i64 ((rd_T44 l0 x4_1).f1)) ∧ w'.cell? ⟨(ad120.add ((x4_1).toNat * 3)).block, (ad120.add ((x4_1).toNat * 3)).off + 2, none⟩ = some (.int .i32 ((rd_T44 l0 x4_1).f2))) (ds := []) #[false, false, false, false, false, false, false, false, false, false, false, false, false, false, false, false, false, false, false, false] (by kernel_rfl) rfl rfl ⟨((HB.out.cell (World.block_lt_of_cell? w _ hw122_0)).trans hw122_0), ((HB.out.cell (World.block_lt_of_cell? w _ hw122_1)).trans hw122_1), ((HB.out.cell (World.block_lt_of_cell? w _ hw122_2)).trans hw122_2), ((HB.out.cell (World.block_lt_of_cell? w _ hw123_0)).trans hw123_0), ((HB.out.cell (World.block_lt_of_cell? w _ hw123_1)).trans hw123_1), ((HB.out.cell (World.block_lt_of_cell? w _ hw123_2)).trans hw123_2)⟩ (fun hHeld => ?_); refine with_tabW dragomanref06_Pairs.tab10 dragomanref06_Pairs.bits10 (fun HT_ HW_ => ?_)
                        generalize wr.drew = w11 at HO_3 HB hx122_0 hx122_1 hx122_2 hx123_0 hx123_1 hx123_2 hHeld ⊢
                        refine pure_ (i := 0) (N := some 29) (v := ?_) (a' := ?_) #[true, false, false, false, false, false, false, false, false, false, false, false, false, false, false, false, false, false, false, false] rfl rfl (any_of HT_.out (by kernel_rfl)) (fun _ _ _ h => h) (Or.inl ⟨by rfl, ?_⟩) ?_ ?_
                        rotate_left
                        · intro w'
                          go_simp
                          with_reducible rfl
                        rotate_left
                        · simp only [Act.put, List.setIfInBounds_toArray, List.set_cons_zero, List.set_cons_succ, i64_w, i32_w]
                          rfl
                        refine pure_ (i := 1) (N := some 30) (v := ?_) (a' := ?_) #[true, true, false, false, false, false, false, false, false, false, false, false, false, false, false, false, false, false, false, false] rfl rfl (any_of HT_.out (by kernel_rfl)) (fun _ _ _ h => h) (Or.inl ⟨by rfl, ?_⟩) ?_ ?_
                        rotate_left
                        · intro w'
                          go_simp
                          with_reducible rfl
                        rotate_left
                        · simp only [Act.put, List.setIfInBounds_toArray, List.set_cons_zero, List.set_cons_succ, i64_w, i32_w]
                          rfl
                        refine pure_ (i := 2) (N := some 31) (v := ?_) (a' := ?_) #[true, true, true, false, false, false, false, false, false, false, false, false, false, false, false, false, false, false, false, false] rfl rfl (any_of HT_.out (by kernel_rfl)) (fun _ _ _ h => h) (Or.inl ⟨by rfl, ?_⟩) ?_ ?_
                        rotate_left
                        · intro w'
                          go_simp
                          with_reducible rfl
                        rotate_left
                        · simp only [Act.put, List.setIfInBounds_toArray, List.set_cons_zero, List.set_cons_succ, i64_w, i32_w]
                          rfl
                        refine pure_ (i := 3) (N := some 32) (v := ?_) (a' := ?_) #[true, true, true, true, false, false, false, false, false, false, false, false, false, false, false, false, false, false, false, false] rfl rfl (any_of HT_.out (by kernel_rfl)) (fun _ _ _ h => h) (Or.inl ⟨by rfl, ?_⟩) ?_ ?_
                        rotate_left
                        · intro w'
                          go_simp
                          with_reducible rfl
                        rotate_left
                        · simp only [Act.put, List.setIfInBounds_toArray, List.set_cons_zero, List.set_cons_succ, i64_w, i32_w]
                          rfl
                        refine pure_ (i := 4) (N := some 33) (v := ?_) (a' := ?_) #[true, true, true, true, true, false, false, false, false, false, false, false, false, false, false, false, false, false, false, false] rfl rfl (any_of HT_.out (by kernel_rfl)) (fun _ _ _ h => h) (Or.inl ⟨by rfl, ?_⟩) ?_ ?_
                        rotate_left
                        · intro w'
                          go_simp
                          with_reducible rfl
                        rotate_left
                        · simp only [Act.put, List.setIfInBounds_toArray, List.set_cons_zero, List.set_cons_succ, i64_w, i32_w]
                          rfl
                        refine pure_ (i := 5) (N := some 34) (v := ?_) (a' := ?_) #[true, true, true, true, true, true, false, false, false, false, false, false, false, false, false, false, false, false, false, false] rfl rfl (any_of HT_.out (by kernel_rfl)) (fun _ _ _ h => h) (Or.inl ⟨by rfl, ?_⟩) ?_ ?_
                        rotate_left
                        · intro w'
                          go_simp
                          with_reducible rfl
                        rotate_left
                        · simp only [Act.put, List.setIfInBounds_toArray, List.set_cons_zero, List.set_cons_succ, i64_w, i32_w]
                          rfl
                        refine pure_ (i := 7) (N := some 36) (v := ?_) (a' := ?_) #[true, true, true, true, true, true, false, true, false, false, false, false, false, false, false, false, false, false, false, false] rfl rfl (any_of HT_.out (by kernel_rfl)) (fun _ _ _ h => h) (Or.inl ⟨by rfl, ?_⟩) ?_ ?_
                        rotate_left
                        · intro w'
                          go_simp
                          with_reducible rfl
                        rotate_left
                        · simp only [Act.put, List.setIfInBounds_toArray, List.set_cons_zero, List.set_cons_succ, i64_w, i32_w]
                          rfl
                        refine pure_ (i := 8) (N := some 37) (v := ?_) (a' := ?_) #[true, true, true, true, true, true, false, true, true, false, false, false, false, false, false, false, false, false, false, false] rfl rfl (any_of HT_.out (by kernel_rfl)) (fun _ _ _ h => h) (Or.inl ⟨by rfl, ?_⟩) ?_ ?_
                        rotate_left
                        · intro w'
                          go_simp
                          with_reducible rfl
                        rotate_left
                        · simp only [Act.put, List.setIfInBounds_toArray, List.set_cons_zero, List.set_cons_succ, i64_w, i32_w]
                          rfl
                        refine pure_ (i := 9) (N := some 38) (v := ?_) (a' := ?_) #[true, true, true, true, true, true, false, true, true, true, false, false, false, false, false, false, false, false, false, false] rfl rfl (any_of HT_.out (by kernel_rfl)) (fun _ _ _ h => h) (Or.inl ⟨by rfl, ?_⟩) ?_ ?_
                        rotate_left
                        · intro w'
                          go_simp
                          with_reducible rfl
                        rotate_left
                        · simp only [Act.put, List.setIfInBounds_toArray, List.set_cons_zero, List.set_cons_succ, i64_w, i32_w]
                          rfl
                        refine pure_ (i := 10) (N := some 39) (v := ?_) (a' := ?_) #[true, true, true, true, true, true, false, true, true, true, true, false, false, false, false, false, false, false, false, false] rfl rfl (any_of HT_.out (by kernel_rfl)) (fun _ _ _ h => h) (Or.inl ⟨by rfl, ?_⟩) ?_ ?_
                        rotate_left
                        · intro w'
                          go_simp
                          with_reducible rfl
                        rotate_left
                        · simp only [Act.put, List.setIfInBounds_toArray, List.set_cons_zero, List.set_cons_succ, i64_w, i32_w]
                          rfl
                        refine pure_ (i := 11) (N := some 40) (v := ?_) (a' := ?_) #[true, true, true, true, true, true, false, true, true, true, true, true, false, false, false, false, false, false, false, false] rfl rfl (any_of HT_.out (by kernel_rfl)) (fun _ _ _ h => h) (Or.inl ⟨by rfl, ?_⟩) ?_ ?_
                        rotate_left
                        · intro w'
                          go_simp
                          with_reducible rfl
                        rotate_left
                        · simp only [Act.put, List.setIfInBounds_toArray, List.set_cons_zero, List.set_cons_succ, i64_w, i32_w]
                          rfl
                        refine take_ (i := 6) (N := some 35) (v := ?_) (a' := ?_) #[true, true, true, true, true, true, true, true, true, true, true, true, false, false, false, false, false, false, false, false] rfl rfl (take_ofW HT_.out HW_.out (by kernel_rfl)) (fun _ _ _ h => h) (Or.inl ⟨by rfl, ?_⟩) hHeld ?_ ?_
                        rotate_left
                        · rintro w' ⟨s0, s1, s2, s3, s4, s5⟩
                          go_simp
                          with_reducible rfl
                        rotate_left
                        · simp only [Act.put, List.setIfInBounds_toArray, List.set_cons_zero, List.set_cons_succ, i64_w, i32_w]
                          rfl
                        refine take_ (i := 12) (N := some 41) (v := ?_) (a' := ?_) #[true, true, true, true, true, true, true, true, true, true, true, true, true, false, false, false, false, false, false, false] rfl rfl (take_ofW HT_.out HW_.out (by kernel_rfl)) (fun _ _ _ h => h) (Or.inl ⟨by rfl, ?_⟩) hHeld ?_ ?_
                        rotate_left
                        · rintro w' ⟨s0, s1, s2, s3, s4, s5⟩
                          go_simp
                          with_reducible rfl
                        rotate_left
                        · simp only [Act.put, List.setIfInBounds_toArray, List.set_cons_zero, List.set_cons_succ, i64_w, i32_w]
                          rfl
                        refine pure_ (i := 13) (N := some 42) (v := ?_) (a' := ?_) #[true, true, true, true, true, true, true, true, true, true, true, true, true, true, false, false, false, false, false, false] rfl rfl (any_of HT_.out (by kernel_rfl)) (fun _ _ _ h => h) (Or.inl ⟨by rfl, ?_⟩) ?_ ?_
                        rotate_left
                        · intro w'
                          go_simp
                          with_reducible rfl
                        rotate_left
                        · simp only [Act.put, List.setIfInBounds_toArray, List.set_cons_zero, List.set_cons_succ, i64_w, i32_w]
                          rfl
                        refine pure_ (i := 14) (N := some 43) (v := ?_) (a' := ?_) #[true, true, true, true, true, true, true, true, true, true, true, true, true, true, true, false, false, false, false, false] rfl rfl (any_of HT_.out (by kernel_rfl)) (fun _ _ _ h => h) (Or.inl ⟨by rfl, ?_⟩) ?_ ?_
                        rotate_left
                        · intro w'
                          go_simp
                          with_reducible rfl
                        rotate_left
                        · simp only [Act.put, List.setIfInBounds_toArray, List.set_cons_zero, List.set_cons_succ, i64_w, i32_w]
                          rfl
                        refine pure_ (i := 15) (N := some 44) (v := ?_) (a' := ?_) #[true, true, true, true, true, true, true, true, true, true, true, true, true, true, true, true, false, false, false, false] rfl rfl (any_of HT_.out (by kernel_rfl)) (fun _ _ _ h => h) (Or.inl ⟨by rfl, ?_⟩) ?_ ?_
                        rotate_left
                        · intro w'
                          go_simp
                          with_reducible rfl
                        rotate_left
                        · simp only [Act.put, List.setIfInBounds_toArray, List.set_cons_zero, List.set_cons_succ, i64_w, i32_w]
                          rfl
                        refine pure_ (i := 16) (N := some 45) (v := ?_) (a' := ?_) #[true, true, true, true, true, true, true, true, true, true, true, true, true, true, true, true, true, false, false, false] rfl rfl (any_of HT_.out (by kernel_rfl)) (fun _ _ _ h => h) (Or.inl ⟨by rfl, ?_⟩) ?_ ?_
                        rotate_left
                        · intro w'
                          go_simp
                          with_reducible rfl
                        rotate_left
                        · simp only [Act.put, List.setIfInBounds_toArray, List.set_cons_zero, List.set_cons_succ, i64_w, i32_w]
                          rfl
                        refine one_ (i := 17) (N := some 46) #[true, true, true, true, true, true, true, true, true, true, true, true, true, true, true, true, true, true, false, false] rfl rfl (one_of HT_.out (by kernel_rfl)) (by decide) (fun K hK => ?_)
                        refine value_ (w1 := ?_) (v := ?_) (by rfl) rfl ?_ ?_
                        rotate_left 2
                        · go_simp
                          constructor
                          · rfl
                          · rfl
                        refine hK.out _ _ ⟨(World.cell?_alloc_lt _ _ _ (World.block_lt_of_cell? _ _ (((HB.out.cell (World.block_lt_of_cell? w _ hw122_0)).trans hw122_0)))).trans (((HB.out.cell (World.block_lt_of_cell? w _ hw122_0)).trans hw122_0)), (World.cell?_alloc_lt _ _ _ (World.block_lt_of_cell? _ _ (((HB.out.cell (World.block_lt_of_cell? w _ hw122_1)).trans hw122_1)))).trans (((HB.out.cell (World.block_lt_of_cell? w _ hw122_1)).trans hw122_1)), (World.cell?_alloc_lt _ _ _ (World.block_lt_of_cell? _ _ (((HB.out.cell (World.block_lt_of_cell? w _ hw122_2)).trans hw122_2)))).trans (((HB.out.cell (World.block_lt_of_cell? w _ hw122_2)).trans hw122_2)), (World.cell?_alloc_lt _ _ _ (World.block_lt_of_cell? _ _ (((HB.out.cell (World.block_lt_of_cell? w _ hw123_0)).trans hw123_0)))).trans (((HB.out.cell (World.block_lt_of_cell? w _ hw123_0)).trans hw123_0)), (World.cell?_alloc_lt _ _ _ (World.block_lt_of_cell? _ _ (((HB.out.cell (World.block_lt_of_cell? w _ hw123_1)).trans hw123_1)))).trans (((HB.out.cell (World.block_lt_of_cell? w _ hw123_1)).trans hw123_1)), (World.cell?_alloc_lt _ _ _ (World.block_lt_of_cell? _ _ (((HB.out.cell (World.block_lt_of_cell? w _ hw123_2)).trans hw123_2)))).trans (((HB.out.cell (World.block_lt_of_cell? w _ hw123_2)).trans hw123_2))⟩ (fun hHeld => ?_)
                        clear hK K
                        refine norm_ (a' := ?_) ?_ ?_
                        rotate_left
                        · show Act.put _ (some 46) _ = _
                          simp only [Act.put, List.setIfInBounds_toArray, List.set_cons_zero, List.set_cons_succ, i64_w, i32_w]
                          rfl
                        refine one_ (i := 18) (N := some 47) #[true, true, true, true, true, true, true, true, true, true, true, true, true, true, true, true, true, true, true, false] rfl rfl (one_of HT_.out (by kernel_rfl)) (by decide) (fun K hK => ?_)
                        refine Kd.R_append_step k41 (w0 := w) w.heap.size (by rfl) (.tmp 29) (.tmp 46) 22 41 (.agg #[(.int .i64 0), (.int .i32 0)]) 16 rfl Try.underlying22 info41 rfl (by decide) (by omega) u3 x3_2 (⟨x5_2, wrap32 (((rd_T44 l0 x4_1).f2) + (wrap32 (wrap64 (x5_2 - ((rd_T44 l0 x4_1).f0)))))⟩ : S41) [.int .i64 x5_2, .int .i32 (wrap32 (((rd_T44 l0 x4_1).f2) + (wrap32 (wrap64 (x5_2 - ((rd_T44 l0 x4_1).f0))))))] (fun _ => True) (fun _ => False) rfl rfl ?aP (fun _ hk => hk.elim) ?aF ?aO ?aB ?aS ?aL ?_
                        (case aP => exact k41_mkM _ _ _ (⟨x5_2, wrap32 (((rd_T44 l0 x4_1).f2) + (wrap32 (wrap64 (x5_2 - ((rd_T44 l0 x4_1).f0)))))⟩ : S41))
                        (case aB => exact (by repeat (first | (with_reducible first | exact HB.out | apply below_alloc | apply pw_below_drewN | apply below_drew1) | exact HB.out)))
                        (case aF => exact (fun _ _ => trivial))
                        (case aO => exact (by (with_reducible repeat (first | apply Kd.R_alloc | apply Kd.R_drewN | apply Kd.R_drew)); exact HO_3.out))
                        (case aS => exact (below_size (by repeat (first | (with_reducible first | exact HB.out | apply below_alloc | apply pw_below_drewN | apply below_drew1) | exact HB.out))))
                        (case aL => have := LMc10.out; omega)
                        intro v125 w12 ho hb hg hat
                        rw [← Ny124.out] at ho
                        have n0_ := Aside0.mk (hb)
                        have n1_ := Aside0.mk (ho)
                        clear HB
                        clear HO_3
                        have HB := n0_
                        have HO126 := n1_
                        clear n0_ n1_
                        clear ho hb hg hat
                        refine hK.out _ _ ⟨((HB.out.cell (World.block_lt_of_cell? w _ hw122_0)).trans hw122_0), ((HB.out.cell (World.block_lt_of_cell? w _ hw122_1)).trans hw122_1), ((HB.out.cell (World.block_lt_of_cell? w _ hw122_2)).trans hw122_2), ((HB.out.cell (World.block_lt_of_cell? w _ hw123_0)).trans hw123_0), ((HB.out.cell (World.block_lt_of_cell? w _ hw123_1)).trans hw123_1), ((HB.out.cell (World.block_lt_of_cell? w _ hw123_2)).trans hw123_2)⟩ (fun hHeld => ?_)
                        clear hK K
                        refine norm_ (a' := ?_) ?_ ?_
                        rotate_left
                        · show Act.put _ (some 47) _ = _
                          simp only [Act.put, List.setIfInBounds_toArray, List.set_cons_zero, List.set_cons_succ, i64_w, i32_w]
                          rfl
                        refine pure_ (i := 19) (N := some 3) (v := ?_) (a' := ?_) #[true, true, true, true, true, true, true, true, true, true, true, true, true, true, true, true, true, true, true, true] rfl rfl (any_of HT_.out (by kernel_rfl)) (fun _ _ _ h => h) (Or.inl ⟨by rfl, ?_⟩) ?_ ?_
                        rotate_left
                        · intro w'
                          go_simp
                          with_reducible rfl
                        rotate_left
                        · simp only [Act.put, List.setIfInBounds_toArray, List.set_cons_zero, List.set_cons_succ, i64_w, i32_w]
                          rfl
                        refine done_ (done_of HT_.out (by kernel_rfl)) ?_
                        try go_wp2
                        go_roundg k2
                        case measure => have := HK1.out; have := HK2.out; omega
                        case rel => exact ⟨(y124), (wrap64 (x5_2 + 1)), (by first | rfl | (simp; done) | (simp [*]; done)), H', ⟨by have := HK1.out; have := HK2.out; omega⟩, ⟨by (with_reducible repeat (first | apply Kd.R_alloc | apply Kd.R_drewN | apply Kd.R_drew)); exact HO126.out⟩, ⟨by repeat (first | (with_reducible first | exact HB.out | apply below_alloc | apply pw_below_drewN | apply below_drew1) | exact HB.out)⟩⟩
                      · rw [if_neg c10] at H
                        exact absurd H (by simp)
                    · rw [if_neg c9] at H
                      have c9b0 : decide (x5_2 ≤ ((rd_T44 l0 x4_1).f1)) = false := decide_eq_false c9
                      clear c9
                      have H' := Aside0.mk H
                      clear H
                      have p121 : 0 ≤ (x4_1 : Int) := of_decide_eq_true (by first | (with_reducible assumption) | assumption)
                      have q121 : x4_1 < (l0.length : Int) := of_decide_eq_true (by first | (with_reducible assumption) | assumption)
                      obtain ⟨ad121, e121, hx121_0, hx121_1, hx121_2⟩ := at_T44 HR0.out x4_1 p121 q121
                      obtain rfl : ad120 = ad121 := (by injection e121)
                      replace hx121_0 := (HB.out.cell (World.block_lt_of_cell? w _ hx121_0)).trans hx121_0
                      replace hx121_1 := (HB.out.cell (World.block_lt_of_cell? w _ hx121_1)).trans hx121_1
                      replace hx121_2 := (HB.out.cell (World.block_lt_of_cell? w _ hx121_2)).trans hx121_2
                      replace p121 := eq_true p121
                      replace q121 := eq_true q121
                      go_wp2
                      go_roundg k2
                      case measure => have := HK1.out; have := HK2.out; omega
                      case rel => exact ⟨(x3_2), (wrap64 (x4_1 + 1)), (by first | rfl | (simp; done) | (simp [*]; done)), H', ⟨by have := HK1.out; have := HK2.out; omega⟩, ⟨by (with_reducible repeat (first | apply Kd.R_alloc | apply Kd.R_drewN | apply Kd.R_drew)); exact HO_3.out⟩, ⟨by repeat (first | (with_reducible first | exact HB.out | apply below_alloc | apply pw_below_drewN | apply below_drew1) | exact HB.out)⟩⟩
                  · rw [if_neg c8] at H
                    exact absurd H (by simp)
                · rw [if_neg c7] at H
                  exact absurd H (by simp)
          · rw [if_neg c6] at H
            exact absurd H (by simp)
        · rw [if_neg c5] at H
          have c5b0 : decide (x4_1 < (l0.length : Int)) = false := decide_eq_false c5
          clear c5
          obtain rfl := Option.some.inj H
          go_wp2
          go_ret
          exact ⟨_, by first | rfl | (simp [errW_none, errW_some] <;> rfl) | (simp [*, errW_none, errW_some] <;> rfl), by (with_reducible repeat (first | apply Kd.R_alloc | apply Kd.R_drewN | apply Kd.R_drew)); exact HO_3.out, by repeat (first | (with_reducible first | exact HB.out | apply below_alloc | apply pw_below_drewN | apply below_drew1) | exact HB.out)⟩
  · rw [if_neg c3] at H
    have c3b0 : (t119 == 0) = false := beq_eq_false_iff_ne.mpr c3
    have c3b1 : (t119 != 0) = true := bne_iff_ne.mpr c3
    obtain rfl := Option.some.inj H
    go_enter Try.func14, Try.ntmps14
    go_wp2_with (first | ((with_reducible refine gate_callee (f := 12) rfl ?_); refine goesL_ (some 7) rfl rfl Try.func12 (by kernel_rfl) rfl #[.slice A0 l0.length c0] rfl (by (try simp only [List.map_toArray, List.map_cons, List.map_nil]); first | done | rfl | (simp only [List.length_drop, List.length_take]; rfl)) ?_; (with_reducible refine (dragomanref06_Check.calls k _ _ l0 t119 _ ?side1 ?side2 A2.out).mono ?_); (case side1 => repeat (first | exact HR0.out | (with_reducible refine Kd.C_alloc ?_ _) | (with_reducible refine Kd.C_drewN ?_ _) | (with_reducible refine Kd.C_drew ?_))); (case side2 => exact HC0.out); rintro e w13 ⟨rfl, hb⟩; refine ⟨_, rfl, ?_⟩; have n0_ := Aside0.mk (below_step (by repeat (first | (with_reducible first | exact HB.out | apply below_alloc | apply pw_below_drewN | apply below_drew1) | exact HB.out)) hb); clear HB; have HB := n0_; clear n0_; (try clear hb); (try clear hb2); (try clear hk); (try clear hi)))
    go_ret
    exact ⟨_, by first | rfl | (simp [errW_none, errW_some] <;> rfl) | (simp [*, errW_none, errW_some] <;> rfl), by first | exact Kd.R_nil _ _ _ _ _ | exact Kd.N_nil _ _ _ _ _ | exact Kd.V_nil _ _ _ _ _ | exact Kd.Q_nil _ _ _ _ _ | exact Kd.S_nil _ _ _ _ _, by repeat (first | (with_reducible first | exact HB.out | apply below_alloc | apply pw_below_drewN | apply below_drew1) | exact HB.out)⟩

/-! ### ranges_Pairs: function 15 -/
mutual
def ranges_Pairs.l0 : Nat → List (S41) → List (S44) → Int → Int → Option ((List (S41)))
  | 0, _, _, _, _ => none
  | k + 1, x3, x10, x11, x12 => if x12 < x11 then (if 0 ≤ x12 then (if x12 < (x10.length : Int) then (ranges_Pairs.l1 k x3 x10 x11 x12 (wrap64 ((wrap64 (((rd_T44 x10 x12).f1) - ((rd_T44 x10 x12).f0))) + 1)) 0 ((rd_T44 x10 x12).f0) ((rd_T44 x10 x12).f1) ((rd_T44 x10 x12).f2)) else (none)) else (none)) else (some x3)
def ranges_Pairs.l1 : Nat → List (S41) → List (S44) → Int → Int → Int → Int → Int → Int → Int → Option ((List (S41)))
  | 0, _, _, _, _, _, _, _, _, _ => none
  | k + 1, x3, x10, x11, x12, x21, x22, x130000, x130001, x130002 => if x22 < x21 then (if x3.length < 8796093022208 then (ranges_Pairs.l1 k (x3 ++ [(⟨wrap64 (x130000 + x22), wrap32 (x130002 + (wrap32 (x22)))⟩ : S41)]) x10 x11 x12 x21 (wrap64 (x22 + 1)) x130000 x130001 x130002) else (none)) else (ranges_Pairs.l0 k x3 x10 x11 (wrap64 (x12 + 1)))
end
def ranges_Pairs.f (k : Nat) (l0 : List (S44)) : Option ((List (S41))) := (ranges_Check.f k l0).bind fun t127 => (if t127 = 0 then (ranges_Pairs.l0 k ([] : List (S41)) l0 (l0.length : Int) 0) else (some ([] : List (S41))))
theorem ranges_Pairs.mono_l : ∀ k, (∀ y0 y1 y2 y3, LeO (ranges_Pairs.l0 k y0 y1 y2 y3) (ranges_Pairs.l0 (k + 1) y0 y1 y2 y3)) ∧ (∀ y0 y1 y2 y3 y4 y5 y6 y7 y8, LeO (ranges_Pairs.l1 k y0 y1 y2 y3 y4 y5 y6 y7 y8) (ranges_Pairs.l1 (k + 1) y0 y1 y2 y3 y4 y5 y6 y7 y8))
  | 0 => ⟨fun _ _ _ _ r h => by simp [ranges_Pairs.l0] at h, fun _ _ _ _ _ _ _ _ _ r h => by simp [ranges_Pairs.l1] at h⟩
  | k + 1 => by
    obtain ⟨ih0, ih1⟩ := ranges_Pairs.mono_l k
    refine ⟨?_, ?_⟩
    · intro y0 y1 y2 y3
      unfold ranges_Pairs.l0
      repeat' first
      | (with_reducible exact ih0 _ _ _ _)
      | (with_reducible exact ih1 _ _ _ _ _ _ _ _ _)
      | (with_reducible exact ranges_Check.mono _ _)
      | (with_reducible exact LeO.refl _)
      | (with_reducible exact LeO.none _)
      | (with_reducible refine LeO.ite ?_ ?_)
      | (with_reducible refine LeO.bind ?_ (fun _ => ?_))
      | exact ih0 _ _ _ _
      | exact ih1 _ _ _ _ _ _ _ _ _
      | exact ranges_Check.mono _ _
      | exact LeO.none _
      | refine LeO.ite ?_ ?_
      | refine LeO.bind ?_ (fun _ => ?_)
    · intro y0 y1 y2 y3 y4 y5 y6 y7 y8
      unfold ranges_Pairs.l1
      repeat' first
      | (with_reducible exact ih0 _ _ _ _)
      | (with_reducible exact ih1 _ _ _ _ _ _ _ _ _)
      | (with_reducible exact ranges_Check.mono _ _)
      | (with_reducible exact LeO.refl _)
      | (with_reducible exact LeO.none _)
      | (with_reducible refine LeO.ite ?_ ?_)
      | (with_reducible refine LeO.bind ?_ (fun _ => ?_))
      | exact ih0 _ _ _ _
      | exact ih1 _ _ _ _ _ _ _ _ _
      | exact ranges_Check.mono _ _
      | exact LeO.none _
      | refine LeO.ite ?_ ?_
      | refine LeO.bind ?_ (fun _ => ?_)
theorem ranges_Pairs.mono : ∀ a0 k, LeO (ranges_Pairs.f k a0) (ranges_Pairs.f (k + 1) a0) := by
  intro a0 k
  obtain ⟨ih0, ih1⟩ := ranges_Pairs.mono_l k
  unfold ranges_Pairs.f
  repeat' first
      | (with_reducible exact ih0 _ _ _ _)
      | (with_reducible exact ih1 _ _ _ _ _ _ _ _ _)
      | (with_reducible exact ranges_Check.mono _ _)
      | (with_reducible exact LeO.refl _)
      | (with_reducible exact LeO.none _)
      | (with_reducible refine LeO.ite ?_ ?_)
      | (with_reducible refine LeO.bind ?_ (fun _ => ?_))
      | exact ih0 _ _ _ _
      | exact ih1 _ _ _ _ _ _ _ _ _
      | exact ranges_Check.mono _ _
      | exact LeO.none _
      | refine LeO.ite ?_ ?_
      | refine LeO.bind ?_ (fun _ => ?_)
set_option maxHeartbeats 8000000 in
set_option maxRecDepth 100000 in
theorem ranges_Pairs.calls (k : Nat) (A0 : Option Addr) (c0 : Nat) (l0 : List (S44)) (r : List (S41)) (w : World) (hr0 : Kd.C k44 w A0 l0.length l0) (hc0 : l0.length ≤ c0) (h : ranges_Pairs.f k l0 = some r) :
    Calls Try.prog 15 #[.slice A0 l0.length c0] w fun e w' => ∃ v0_ : Value, e = .returned (v0_) ∧ Kd.R k41 41 w' w.heap.size (fun _ => True) v0_ r ∧ Below w.heap.size w w' := by
  have hu44 := Try.underlying44
  have hu41 := Try.underlying41
  have HR0 := Aside0.mk hr0
  have HC0 := Aside0.mk hc0
  clear hr0 hc0
  have HB := Aside0.mk (Below.refl w.heap.size w)
  have H : ((ranges_Check.f k l0).bind fun t127 => (if t127 = 0 then (ranges_Pairs.l0 k ([] : List (S41)) l0 (l0.length : Int) 0) else (some ([] : List (S41))))) = some r := h
  clear h
  replace H := Option.bind_eq_some_iff.mp H
  obtain ⟨t127, A20, H⟩ := H
  replace H : (if t127 = 0 then (ranges_Pairs.l0 k ([] : List (S41)) l0 (l0.length : Int) 0) else (some ([] : List (S41)))) = some r := H
  have A2 := Aside0.mk A20
  clear A20
  by_cases c3 : t127 = 0
  · rw [if_pos c3] at H
    have c3b0 : (t127 == 0) = true := beq_iff_eq.mpr c3
    have c3b1 : (t127 != 0) = false := bne_eq_false_iff_eq.mpr c3
    clear c3
    have H' := Aside0.mk H
    clear H
    go_enter Try.func15, Try.ntmps15
    go_wp2_with (first | ((with_reducible refine gate_callee (f := 13) rfl ?_); refine goesL_ (some 8) rfl rfl Try.func13 (by kernel_rfl) rfl #[.slice A0 l0.length c0] rfl (by (try simp only [List.map_toArray, List.map_cons, List.map_nil]); first | done | rfl | (simp only [List.length_drop, List.length_take]; rfl)) ?_; (with_reducible refine (ranges_Check.calls k _ _ l0 t127 _ ?side1 ?side2 A2.out).mono ?_); (case side1 => repeat (first | exact HR0.out | (with_reducible refine Kd.C_alloc ?_ _) | (with_reducible refine Kd.C_drewN ?_ _) | (with_reducible refine Kd.C_drew ?_))); (case side2 => exact HC0.out); rintro e w4 ⟨rfl, hb⟩; refine ⟨_, rfl, ?_⟩; have n0_ := Aside0.mk (below_step (by repeat (first | (with_reducible first | exact HB.out | apply below_alloc | apply pw_below_drewN | apply below_drew1) | exact HB.out)) hb); clear HB; have HB := n0_; clear n0_; (try clear hb); (try clear hb2); (try clear hk); (try clear hi)))
    go_loopg [3, 12] k (fun kq v3 v12 w' => ∃ (x3_1 : List (S41)) (x12_1 : Int), v12 = .int .i64 x12_1 ∧ Aside0 (ranges_Pairs.l0 kq x3_1 l0 (l0.length : Int) x12_1 = some r) ∧ Aside0 (kq ≤ k) ∧ Aside0 (Kd.R k41 41 w' w.heap.size (fun _ => True) v3 x3_1) ∧ Aside0 (Below w.heap.size w w'))
    case atStart => exact ⟨(([] : List (S41))), (0), (by first | rfl | (simp; done) | (simp [*]; done)), H', ⟨Nat.le_refl _⟩, ⟨by first | exact Kd.R_nil _ _ _ _ _ | exact Kd.N_nil _ _ _ _ _ | exact Kd.V_nil _ _ _ _ _ | exact Kd.Q_nil _ _ _ _ _ | exact Kd.S_nil _ _ _ _ _⟩, ⟨by repeat (first | (with_reducible first | exact HB.out | apply below_alloc | apply pw_below_drewN | apply below_drew1) | exact HB.out)⟩⟩
    case round =>
      clear H'
      try clear c1
      try clear p2
      try clear c3
      try clear c3b0
      try clear c3b1
      obtain ⟨x3_1, x12_1, rfl, HA, HK1, HO_3, HB⟩ := hrel
      cases gk with
      | zero => exact absurd HA.out (by simp [ranges_Pairs.l0])
      | succ k1 =>
        have H := HA.out
        clear HA
        simp only [ranges_Pairs.l0] at H
        by_cases c5 : x12_1 < (l0.length : Int)
        · rw [if_pos c5] at H
          have c5b0 : decide (x12_1 < (l0.length : Int)) = true := decide_eq_true c5
          clear c5
          by_cases c6 : 0 ≤ x12_1
          · rw [if_pos c6] at H
            have c6b0 : decide (0 ≤ x12_1) = true := decide_eq_true c6
            clear c6
            by_cases c7 : x12_1 < (l0.length : Int)
            · rw [if_pos c7] at H
              have c7b0 : decide (x12_1 < (l0.length : Int)) = true := decide_eq_true c7
              clear c7
              have H' := Aside0.mk H
              clear H
              have p128 : 0 ≤ (x12_1 : Int) := of_decide_eq_true (by first | (with_reducible assumption) | assumption)
              have q128 : x12_1 < (l0.length : Int) := of_decide_eq_true (by first | (with_reducible assumption) | assumption)
              obtain ⟨ad128, e128, hx128_0, hx128_1, hx128_2⟩ := at_T44 HR0.out x12_1 p128 q128
              cases e128
              replace hx128_0 := (HB.out.cell (World.block_lt_of_cell? w _ hx128_0)).trans hx128_0
              replace hx128_1 := (HB.out.cell (World.block_lt_of_cell? w _ hx128_1)).trans hx128_1
              replace hx128_2 := (HB.out.cell (World.block_lt_of_cell? w _ hx128_2)).trans hx128_2
              replace p128 := eq_true p128
              replace q128 := eq_true q128
              go_wp2_with (first | ((with_reducible refine gate_dst (N := 5) rfl ?_); refine box_event ?hg (N := 5) ?hd (cs := #[.int .i64 0, .int .i64 0, .int .i32 0]) (t := 44) ?hr ?_; (case hd => rfl); (case hg => rfl); (case hr => first | (go_simp; done) | (go_simp; rfl)); intro gb129 hg w8 hbox hb; have n0_ := Aside0.mk (Kd.R_below (by (with_reducible repeat (first | apply Kd.R_alloc | apply Kd.R_drewN | apply Kd.R_drew)); exact HO_3.out) hb); have n1_ := Aside0.mk (below_step (by repeat (first | (with_reducible first | exact HB.out | apply below_alloc | apply pw_below_drewN | apply below_drew1) | exact HB.out)) hb); have n2_ := Aside0.mk (hbox); have n3_ := Aside0.mk ((by rw [hg]; exact (below_size (by repeat (first | (with_reducible first | exact HB.out | apply below_alloc | apply pw_below_drewN | apply below_drew1) | exact HB.out))) : w.heap.size ≤ gb129)); have n4_ := Aside0.mk ((by rw [hg]; exact (below_size (by repeat (first | (with_reducible first | exact HB.out | apply below_alloc | apply pw_below_drewN | apply below_drew1) | exact HB.out))) : w.heap.size ≤ gb129)); clear HO_3; clear HB; have HO_3 := n0_; have HB := n1_; have BK129 := n2_; have GW129 := n3_; have GE129 := n4_; clear n0_ n1_ n2_ n3_ n4_; clear hb hbox hg; have hcz9_0 : w8.cell? ⟨gb129, 0, none⟩ = some (.int .i64 0) := (blk_cell BK129.out 0).trans rfl; have hcz9_1 : w8.cell? ⟨gb129, 1, none⟩ = some (.int .i64 0) := (blk_cell BK129.out 1).trans rfl; have hcz9_2 : w8.cell? ⟨gb129, 2, none⟩ = some (.int .i32 0) := (blk_cell BK129.out 2).trans rfl; have hfz9_0 := blk_frozen BK129.out 0; have hfz9_1 := blk_frozen BK129.out 1; have hfz9_2 := blk_frozen BK129.out 2))
              go_loopg [3, 22] k1 (fun kq v3 v22 w' => ∃ (x3_2 : List (S41)) (x22_2 : Int), v22 = .int .i64 x22_2 ∧ Aside0 (ranges_Pairs.l1 kq x3_2 l0 (l0.length : Int) x12_1 (wrap64 ((wrap64 (((rd_T44 l0 x12_1).f1) - ((rd_T44 l0 x12_1).f0))) + 1)) x22_2 ((rd_T44 l0 x12_1).f0) ((rd_T44 l0 x12_1).f1) ((rd_T44 l0 x12_1).f2) = some r) ∧ Aside0 (kq ≤ k1) ∧ Aside0 (Kd.R k41 41 w' w.heap.size (fun _ => True) v3 x3_2) ∧ Aside0 (w'.heap[gb129]? = some (.cells #[.int .i64 ((rd_T44 l0 x12_1).f0), .int .i64 ((rd_T44 l0 x12_1).f1), .int .i32 ((rd_T44 l0 x12_1).f2)] 44 (0, 0))) ∧ Aside0 (Below w.heap.size w w'))
              case atStart => exact ⟨(x3_1), (0), (by first | rfl | (simp; done) | (simp [*]; done)), H', ⟨Nat.le_refl _⟩, ⟨by (with_reducible repeat (first | apply Kd.R_alloc | apply Kd.R_drewN | apply Kd.R_drew)); exact Kd.R_mono (Kd.R_far (p := ⟨gb129, 2, none⟩) (Kd.R_far (p := ⟨gb129, 1, none⟩) (Kd.R_far (p := ⟨gb129, 0, none⟩) (Kd.R_types HO_3.out BK129.out (by decide)) (fun _ hk => hk.2) (.int .i64 ((rd_T44 l0 x12_1).f0))) (fun _ hk => hk.2) (.int .i64 ((rd_T44 l0 x12_1).f1))) (fun _ hk => hk.2) (.int .i32 ((rd_T44 l0 x12_1).f2))) (fun _ hk => trivial)⟩, ⟨by (with_reducible repeat (first | refine blk_drewN ?_ _ | refine blk_drew ?_ | refine blk_alloc ?_ _)); refine blk_put (cs := #[.int .i64 ((rd_T44 l0 x12_1).f0), .int .i64 ((rd_T44 l0 x12_1).f1), .int .i32 0]) ?_ 2 _ rfl; (with_reducible repeat (first | refine blk_drewN ?_ _ | refine blk_drew ?_ | refine blk_alloc ?_ _)); refine blk_put (cs := #[.int .i64 ((rd_T44 l0 x12_1).f0), .int .i64 0, .int .i32 0]) ?_ 1 _ rfl; (with_reducible repeat (first | refine blk_drewN ?_ _ | refine blk_drew ?_ | refine blk_alloc ?_ _)); refine blk_put (cs := #[.int .i64 0, .int .i64 0, .int .i32 0]) ?_ 0 _ rfl; (with_reducible repeat (first | refine blk_drewN ?_ _ | refine blk_drew ?_ | refine blk_alloc ?_ _)); exact BK129.out⟩, ⟨by repeat (first | (with_reducible first | exact HB.out | apply below_alloc | apply pw_below_drewN | apply below_drew1 | refine below_set ?_ GE129.out) | exact HB.out)⟩⟩
              case round =>
                clear H'
                try clear c1
                try clear p1
                try clear q1
                try clear hx1
                try clear p2
                try clear c3
                try clear c3b0
                try clear c3b1
                try clear c5
                try clear c5b0
                try clear c6
                try clear c6b0
                try clear p6
                try clear c7
                try clear c7b0
                try clear hcz9_0
                try clear hcz9_1
                try clear hcz9_2
                try clear hfz9_0
                try clear hfz9_1
                try clear hfz9_2
                try clear hx128_0
                try clear hx128_1
                try clear hx128_2
                try clear p128
                try clear p2
                try clear q128
                obtain ⟨x3_2, x22_2, rfl, HA, HK2, HO_3, BK129, HB⟩ := hrel
                cases gk with
                | zero => exact absurd HA.out (by simp [ranges_Pairs.l1])
                | succ k2 =>
                  have H := HA.out
                  clear HA
                  simp only [ranges_Pairs.l1] at H
                  by_cases c10 : x22_2 < (wrap64 ((wrap64 (((rd_T44 l0 x12_1).f1) - ((rd_T44 l0 x12_1).f0))) + 1))
                  · rw [if_pos c10] at H
                    have c10b0 : decide (x22_2 < (wrap64 ((wrap64 (((rd_T44 l0 x12_1).f1) - ((rd_T44 l0 x12_1).f0))) + 1))) = true := decide_eq_true c10
                    clear c10
                    by_cases c11 : x3_2.length < 8796093022208
                    · rw [if_pos c11] at H
                      have LMc11 := Aside0.mk c11
                      clear c11
                      obtain ⟨y130, hy130⟩ : ∃ y_ : List (S41), y_ = (x3_2 ++ [(⟨wrap64 (((rd_T44 l0 x12_1).f0) + x22_2), wrap32 (((rd_T44 l0 x12_1).f2) + (wrap32 (x22_2)))⟩ : S41)]) := ⟨_, rfl⟩
                      replace H : (ranges_Pairs.l1 k2 y130 l0 (l0.length : Int) x12_1 (wrap64 ((wrap64 (((rd_T44 l0 x12_1).f1) - ((rd_T44 l0 x12_1).f0))) + 1)) (wrap64 (x22_2 + 1)) ((rd_T44 l0 x12_1).f0) ((rd_T44 l0 x12_1).f1) ((rd_T44 l0 x12_1).f2)) = some r := by first | (rw [hy130]; with_reducible exact H) | (have H2_ := (Option.bind_some _ _).symm.trans H; rw [hy130]; with_reducible exact H2_) | (have H2_ := (Option.bind_some _ _).symm.trans H; with_reducible exact H2_) | with_reducible exact H | (rw [hy130]; exact H) | exact H
                      have Ny130 := Aside0.mk hy130
                      clear hy130
                      have H' := Aside0.mk H
                      clear H
                      have hcz12_0 : wr.cell? ⟨gb129, 0, none⟩ = some (.int .i64 ((rd_T44 l0 x12_1).f0)) := (blk_cell BK129.out 0).trans rfl
                      have hcz12_1 : wr.cell? ⟨gb129, 1, none⟩ = some (.int .i64 ((rd_T44 l0 x12_1).f1)) := (blk_cell BK129.out 1).trans rfl
                      have hcz12_2 : wr.cell? ⟨gb129, 2, none⟩ = some (.int .i32 ((rd_T44 l0 x12_1).f2)) := (blk_cell BK129.out 2).trans rfl
                      have hfz12_0 := blk_frozen BK129.out 0
                      have hfz12_1 := blk_frozen BK129.out 1
                      have hfz12_2 := blk_frozen BK129.out 2
                      go_wp2_with (first | ((with_reducible refine gate_builtin (b := .append) (xs := #[.tmp 25, .tmp 36]) rfl ?_); at_builtin; refine Kd.R_append k41 (w0 := w) w.heap.size rfl (.tmp 25) (.tmp 36) 22 41 (.agg #[(.int .i64 0), (.int .i32 0)]) 16 rfl Try.underlying22 info41 rfl (by decide) (by omega) u3 x3_2 (⟨wrap64 (((rd_T44 l0 x12_1).f0) + x22_2), wrap32 (((rd_T44 l0 x12_1).f2) + (wrap32 (x22_2)))⟩ : S41) [.int .i64 (wrap64 (((rd_T44 l0 x12_1).f0) + x22_2)), .int .i32 (wrap32 (((rd_T44 l0 x12_1).f2) + (wrap32 (x22_2))))] (fun _ => True) (fun _ => False) rfl rfl ?aP (fun _ hk => hk.elim) ?aF ?aO ?aB ?aS ?aL ?_; (case aP => exact k41_mkM _ _ _ (⟨wrap64 (((rd_T44 l0 x12_1).f0) + x22_2), wrap32 (((rd_T44 l0 x12_1).f2) + (wrap32 (x22_2)))⟩ : S41)); (case aB => exact (by repeat (first | (with_reducible first | exact HB.out | apply below_alloc | apply pw_below_drewN | apply below_drew1 | refine below_set ?_ GE129.out) | exact HB.out))); (case aF => exact (fun _ _ => trivial)); (case aO => exact (by (with_reducible repeat (first | apply Kd.R_alloc | apply Kd.R_drewN | apply Kd.R_drew)); exact HO_3.out)); (case aS => exact (below_size (by repeat (first | (with_reducible first | exact HB.out | apply below_alloc | apply pw_below_drewN | apply below_drew1 | refine below_set ?_ GE129.out) | exact HB.out)))); (case aL => have := LMc11.out; omega); intro v131 w13 ho hb hg hat; rw [← Ny130.out] at ho; have n0_ := Aside0.mk (blk_grown (g := gb129) (o := .cells #[.int .i64 ((rd_T44 l0 x12_1).f0), .int .i64 ((rd_T44 l0 x12_1).f1), .int .i32 ((rd_T44 l0 x12_1).f2)] 44 (0, 0)) (by (with_reducible repeat (first | refine blk_drewN ?_ _ | refine blk_drew ?_ | refine blk_alloc ?_ _)); exact BK129.out) hg (Kd.R_ne HO_3.out BK129.out (by decide))); have n1_ := Aside0.mk (hb); have n2_ := Aside0.mk (ho); clear BK129; clear HB; clear HO_3; have BK129 := n0_; have HB := n1_; have HO132 := n2_; clear n0_ n1_ n2_; clear ho hb hg hat))
                      go_roundg k2
                      case measure => have := HK1.out; have := HK2.out; omega
                      case rel => exact ⟨(y130), (wrap64 (x22_2 + 1)), (by first | rfl | (simp; done) | (simp [*]; done)), H', ⟨by have := HK1.out; have := HK2.out; omega⟩, ⟨by (with_reducible repeat (first | apply Kd.R_alloc | apply Kd.R_drewN | apply Kd.R_drew)); exact HO132.out⟩, ⟨by (with_reducible repeat (first | refine blk_drewN ?_ _ | refine blk_drew ?_ | refine blk_alloc ?_ _)); exact BK129.out⟩, ⟨by repeat (first | (with_reducible first | exact HB.out | apply below_alloc | apply pw_below_drewN | apply below_drew1 | refine below_set ?_ GE129.out) | exact HB.out)⟩⟩
                    · rw [if_neg c11] at H
                      exact absurd H (by simp)
                  · rw [if_neg c10] at H
                    have c10b0 : decide (x22_2 < (wrap64 ((wrap64 (((rd_T44 l0 x12_1).f1) - ((rd_T44 l0 x12_1).f0))) + 1))) = false := decide_eq_false c10
                    clear c10
                    have H' := Aside0.mk H
                    clear H
                    go_wp2
                    go_roundg k2
                    case measure => have := HK1.out; have := HK2.out; omega
                    case rel => exact ⟨(x3_2), (wrap64 (x12_1 + 1)), (by first | rfl | (simp; done) | (simp [*]; done)), H', ⟨by have := HK1.out; have := HK2.out; omega⟩, ⟨by (with_reducible repeat (first | apply Kd.R_alloc | apply Kd.R_drewN | apply Kd.R_drew)); exact HO_3.out⟩, ⟨by repeat (first | (with_reducible first | exact HB.out | apply below_alloc | apply pw_below_drewN | apply below_drew1 | refine below_set ?_ GE129.out) | exact HB.out)⟩⟩
            · rw [if_neg c7] at H
              exact absurd H (by simp)
          · rw [if_neg c6] at H
            exact absurd H (by simp)
        · rw [if_neg c5] at H
          have c5b0 : decide (x12_1 < (l0.length : Int)) = false := decide_eq_false c5
          clear c5
          obtain rfl := Option.some.inj H
          go_wp2
          go_ret
          exact ⟨_, by first | rfl | (simp [errW_none, errW_some] <;> rfl) | (simp [*, errW_none, errW_some] <;> rfl), by (with_reducible repeat (first | apply Kd.R_alloc | apply Kd.R_drewN | apply Kd.R_drew)); exact HO_3.out, by repeat (first | (with_reducible first | exact HB.out | apply below_alloc | apply pw_below_drewN | apply below_drew1) | exact HB.out)⟩
  · rw [if_neg c3] at H
    have c3b0 : (t127 == 0) = false := beq_eq_false_iff_ne.mpr c3
    have c3b1 : (t127 != 0) = true := bne_iff_ne.mpr c3
    obtain rfl := Option.some.inj H
    go_enter Try.func15, Try.ntmps15
    go_wp2_with (first | ((with_reducible refine gate_callee (f := 13) rfl ?_); refine goesL_ (some 8) rfl rfl Try.func13 (by kernel_rfl) rfl #[.slice A0 l0.length c0] rfl (by (try simp only [List.map_toArray, List.map_cons, List.map_nil]); first | done | rfl | (simp only [List.length_drop, List.length_take]; rfl)) ?_; (with_reducible refine (ranges_Check.calls k _ _ l0 t127 _ ?side1 ?side2 A2.out).mono ?_); (case side1 => repeat (first | exact HR0.out | (with_reducible refine Kd.C_alloc ?_ _) | (with_reducible refine Kd.C_drewN ?_ _) | (with_reducible refine Kd.C_drew ?_))); (case side2 => exact HC0.out); rintro e w14 ⟨rfl, hb⟩; refine ⟨_, rfl, ?_⟩; have n0_ := Aside0.mk (below_step (by repeat (first | (with_reducible first | exact HB.out | apply below_alloc | apply pw_below_drewN | apply below_drew1) | exact HB.out)) hb); clear HB; have HB := n0_; clear n0_; (try clear hb); (try clear hb2); (try clear hk); (try clear hi)))
    go_ret
    exact ⟨_, by first | rfl | (simp [errW_none, errW_some] <;> rfl) | (simp [*, errW_none, errW_some] <;> rfl), by first | exact Kd.R_nil _ _ _ _ _ | exact Kd.N_nil _ _ _ _ _ | exact Kd.V_nil _ _ _ _ _ | exact Kd.Q_nil _ _ _ _ _ | exact Kd.S_nil _ _ _ _ _, by repeat (first | (with_reducible first | exact HB.out | apply below_alloc | apply pw_below_drewN | apply below_drew1) | exact HB.out)⟩

-- NOT PRINTED: function 25 (api_Range_int)

/-! ### dragomanref06_Scalar: function 17 -/
def dragomanref06_Scalar.l0 : Nat → List (S41) → Int → Int → Option (Int × Bool)
  | 0, _, _, _ => none
  | k + 1, x0, x1, x6 => if x6 < (x0.length : Int) then (if 0 ≤ x6 then (if ((rd_T41 x0 x6).f0) = x1 then (some ((rd_T41 x0 x6).f1, true)) else (dragomanref06_Scalar.l0 k x0 x1 (wrap64 (x6 + 1)))) else (none)) else (some (0, false))
def dragomanref06_Scalar.f (k : Nat) (l0 : List (S41)) (a1 : Int) : Option (Int × Bool) := dragomanref06_Scalar.l0 k l0 a1 0
theorem dragomanref06_Scalar.mono_l : ∀ k, (∀ y0 y1 y2, LeO (dragomanref06_Scalar.l0 k y0 y1 y2) (dragomanref06_Scalar.l0 (k + 1) y0 y1 y2))
  | 0 => fun _ _ _ r h => by simp [dragomanref06_Scalar.l0] at h
  | k + 1 => by
    have ih0 := dragomanref06_Scalar.mono_l k
    · intro y0 y1 y2
      unfold dragomanref06_Scalar.l0
      repeat' first
      | (with_reducible exact ih0 _ _ _)
      | (with_reducible exact LeO.refl _)
      | (with_reducible exact LeO.none _)
      | (with_reducible refine LeO.ite ?_ ?_)
      | (with_reducible refine LeO.bind ?_ (fun _ => ?_))
      | exact ih0 _ _ _
      | exact LeO.none _
      | refine LeO.ite ?_ ?_
      | refine LeO.bind ?_ (fun _ => ?_)
theorem dragomanref06_Scalar.mono : ∀ a0 a1 k, LeO (dragomanref06_Scalar.f k a0 a1) (dragomanref06_Scalar.f (k + 1) a0 a1) := by
  intro a0 a1 k
  have ih0 := dragomanref06_Scalar.mono_l k
  unfold dragomanref06_Scalar.f
  repeat' first
      | (with_reducible exact ih0 _ _ _)
      | (with_reducible exact LeO.refl _)
      | (with_reducible exact LeO.none _)
      | (with_reducible refine LeO.ite ?_ ?_)
      | (with_reducible refine LeO.bind ?_ (fun _ => ?_))
      | exact ih0 _ _ _
      | exact LeO.none _
      | refine LeO.ite ?_ ?_
      | refine LeO.bind ?_ (fun _ => ?_)
set_option maxHeartbeats 8000000 in
set_option maxRecDepth 100000 in
theorem dragomanref06_Scalar.calls (k : Nat) (A0 : Option Addr) (c0 : Nat) (l0 : List (S41)) (a1 : Int) (r1 : Int) (r2 : Bool) (w : World) (hr0 : Kd.C k41 w A0 l0.length l0) (hc0 : l0.length ≤ c0) (h : dragomanref06_Scalar.f k l0 a1 = some (r1, r2)) :
    Calls Try.prog 17 #[.slice A0 l0.length c0, .int .i64 a1] w fun e w' => e = .returned (.tuple #[.int .i32 r1, .bool r2]) ∧ Drawn0 w w' := by
  have HR0 := Aside0.mk hr0
  have HC0 := Aside0.mk hc0
  clear hr0 hc0
  have H : (dragomanref06_Scalar.l0 k l0 a1 0) = some (r1, r2) := h
  clear h
  have H' := Aside0.mk H
  clear H
  go_enter Try.func17, Try.ntmps17
  go_wp2
  go_loopg [6] k (fun kq v6 w' => ∃ (x6_1 : Int), v6 = .int .i64 x6_1 ∧ Aside0 (dragomanref06_Scalar.l0 kq l0 a1 x6_1 = some (r1, r2)) ∧ Aside0 (kq ≤ k) ∧ Drawn0 w w')
  case atStart => exact ⟨(0), (by first | rfl | (simp; done) | (simp [*]; done)), H', ⟨Nat.le_refl _⟩, by repeat (first | exact Drawn0.refl _ | apply Drawn0.step)⟩
  case round =>
    clear H'
    try clear c1
    try clear p2
    obtain ⟨x6_1, rfl, HA, HK1, ⟨m1, rfl⟩⟩ := hrel
    cases gk with
    | zero => exact absurd HA.out (by simp [dragomanref06_Scalar.l0])
    | succ k1 =>
      have H := HA.out
      clear HA
      simp only [dragomanref06_Scalar.l0] at H
      by_cases c3 : x6_1 < (l0.length : Int)
      · rw [if_pos c3] at H
        have c3b0 : decide (x6_1 < (l0.length : Int)) = true := decide_eq_true c3
        clear c3
        by_cases c4 : 0 ≤ x6_1
        · rw [if_pos c4] at H
          have c4b0 : decide (0 ≤ x6_1) = true := decide_eq_true c4
          clear c4
          by_cases c5 : ((rd_T41 l0 x6_1).f0) = a1
          · rw [if_pos c5] at H
            have c5b0 : (((rd_T41 l0 x6_1).f0) == a1) = true := beq_iff_eq.mpr c5
            have c5b1 : (((rd_T41 l0 x6_1).f0) != a1) = false := bne_eq_false_iff_eq.mpr c5
            clear c5
            simp only [Option.some.injEq, Prod.mk.injEq] at H
            obtain ⟨rfl, rfl⟩ := H
            have p133 : 0 ≤ (x6_1 : Int) := of_decide_eq_true (by first | (with_reducible assumption) | assumption)
            have q133 : x6_1 < (l0.length : Int) := of_decide_eq_true (by first | (with_reducible assumption) | assumption)
            obtain ⟨ad133, e133, hx133_0, hx133_1⟩ := at_T41 HR0.out x6_1 p133 q133
            cases e133
            replace p133 := eq_true p133
            replace q133 := eq_true q133
            have p134 : 0 ≤ (x6_1 : Int) := of_decide_eq_true (by first | (with_reducible assumption) | assumption)
            have q134 : x6_1 < (l0.length : Int) := of_decide_eq_true (by first | (with_reducible assumption) | assumption)
            obtain ⟨ad134, e134, hx134_0, hx134_1⟩ := at_T41 HR0.out x6_1 p134 q134
            obtain rfl : ad133 = ad134 := (by injection e134)
            replace p134 := eq_true p134
            replace q134 := eq_true q134
            go_wp2
            go_ret2
            exact ⟨by first | rfl | (simp; done) | (simp [*]; done), by repeat (first | exact Drawn0.refl _ | apply Drawn0.step)⟩
          · rw [if_neg c5] at H
            have c5b0 : (((rd_T41 l0 x6_1).f0) == a1) = false := beq_eq_false_iff_ne.mpr c5
            have c5b1 : (((rd_T41 l0 x6_1).f0) != a1) = true := bne_iff_ne.mpr c5
            have H' := Aside0.mk H
            clear H
            have p133 : 0 ≤ (x6_1 : Int) := of_decide_eq_true (by first | (with_reducible assumption) | assumption)
            have q133 : x6_1 < (l0.length : Int) := of_decide_eq_true (by first | (with_reducible assumption) | assumption)
            obtain ⟨ad133, e133, hx133_0, hx133_1⟩ := at_T41 HR0.out x6_1 p133 q133
            cases e133
            replace p133 := eq_true p133
            replace q133 := eq_true q133
            go_wp2
            go_roundg k1
            case measure => have := HK1.out; omega
            case rel => exact ⟨(wrap64 (x6_1 + 1)), (by first | rfl | (simp; done) | (simp [*]; done)), H', ⟨by have := HK1.out; omega⟩, by repeat (first | exact Drawn0.refl _ | apply Drawn0.step)⟩
        · rw [if_neg c4] at H
          exact absurd H (by simp)
      · rw [if_neg c3] at H
        have c3b0 : decide (x6_1 < (l0.length : Int)) = false := decide_eq_false c3
        clear c3
        simp only [Option.some.injEq, Prod.mk.injEq] at H
        obtain ⟨rfl, rfl⟩ := H
        go_wp2
        go_ret2
        exact ⟨by first | rfl | (simp; done) | (simp [*]; done), by repeat (first | exact Drawn0.refl _ | apply Drawn0.step)⟩

end Go.Proofs.Ytnapldildjnchaa.PRangesTells
