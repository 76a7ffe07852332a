/- RangesBack: what the functions answer, and their walks; what is not printed is given by YtnapldildjnchaaGRangesBack. Written by a program of ours over the print. -/
import Derived.Test.YtnapldildjnchaaPRangesBackx0
import Derived.Test.YtnapldildjnchaaPRangesBackx2
import Derived.Test.YtnapldildjnchaaPRangesBackx3
import Derived.Test.YtnapldildjnchaaPRangesBackx4
import Derived.Test.YtnapldildjnchaaGRangesBack
namespace Go.Proofs.Ytnapldildjnchaa.PRangesBack
open Go.RowKit Go.Proofs.YtnapldildjnchaaW.PrintWords Go.Proofs.YtnapldildjnchaaW.PrintLast Go.Proofs.YtnapldildjnchaaW.PrintMore
attribute [local go_sem] max2_int min2_int max_two min_two max_three min_three max_four min_four   -- for this text's walks alone
set_option linter.unusedVariables false
set_option linter.unusedSimpArgs false

/-! ### dragomanlaw06_RangesBack: function 5 -/
mutual
def dragomanlaw06_RangesBack.j0 : Nat → List (S41) → Option (Bool)
  | 0, _ => none
  | k + 1, x0 => (ranges_Pack.f k x0).bind fun bt162 => (if bt162.2 = 0 then ((ranges_Check.f k bt162.1).bind fun t166 => (if t166 = 0 then ((ranges_Pairs.f k bt162.1).bind fun t167 => ((dragomanref06_SamePairs.f k t167 x0).bind fun t170 => (if t170 = true then (dragomanlaw06_RangesBack.j1 k x0 bt162.1 (decide ((bt162.1.length : Int) > (x0.length : Int)))) else (dragomanlaw06_RangesBack.j1 k x0 bt162.1 true)))) else (dragomanlaw06_RangesBack.j1 k x0 bt162.1 true))) else (some ((bt162.1.length : Int) == 0)))
def dragomanlaw06_RangesBack.j1 : Nat → List (S41) → List (S44) → Bool → Option (Bool)
  | 0, _, _, _ => none
  | k + 1, x0, x8, x71 => if x71 = true then (some false) else (dragomanlaw06_RangesBack.l0 k x0 x8 0)
def dragomanlaw06_RangesBack.l0 : Nat → List (S41) → List (S44) → Int → Option (Bool)
  | 0, _, _, _ => none
  | k + 1, x0, x8, x10 => if x10 < (x0.length : Int) then (dragomanlaw06_RangesBack.j3 k x0 x8 x10 (decide (x10 < 300))) else (dragomanlaw06_RangesBack.j3 k x0 x8 x10 false)
def dragomanlaw06_RangesBack.j3 : Nat → List (S41) → List (S44) → Int → Bool → Option (Bool)
  | 0, _, _, _, _ => none
  | k + 1, x0, x8, x10, x79 => if x79 = true then (if 0 ≤ x10 then (if x10 < (x0.length : Int) then ((ranges_Scalar.f k x8 ((rd_T41 x0 x10).f0)).bind fun bt172 => ((ranges_Code.f k x8 ((rd_T41 x0 x10).f1)).bind fun bt175 => ((ranges_Scalar.f k x8 bt175.1).bind fun bt177 => (if bt172.1 = ((rd_T41 x0 x10).f1) then (if bt172.2 = true then (if bt175.2 = true then (if bt175.1 > ((rd_T41 x0 x10).f0) then (some false) else (if bt177.1 = bt172.1 then (if bt177.2 = true then (dragomanlaw06_RangesBack.l0 k x0 x8 (wrap64 (x10 + 1))) else (some false)) else (some false))) else (some false)) else (some false)) else (some false))))) else (none)) else (none)) else (some true)
end
def dragomanlaw06_RangesBack.f (k : Nat) (l0 : List (S41)) (l1 : List (S44)) : Option (Bool) := (dragomanlaw06_works.f k).bind fun t149 => (if t149 = true then ((ranges_Check.f k l1).bind fun t150 => (if t150 = 0 then ((ranges_Pairs.f k l1).bind fun t151 => ((ranges_Pack.f k t151).bind fun bt154 => (if bt154.2 = 0 then (if (bt154.1.length : Int) > (l1.length : Int) then (some false) else ((ranges_Pairs.f k bt154.1).bind fun t158 => ((dragomanref06_SamePairs.f k t158 t151).bind fun t161 => (if t161 = true then (dragomanlaw06_RangesBack.j0 k l0) else (some false))))) else (some false)))) else (dragomanlaw06_RangesBack.j0 k l0))) else (some false))
theorem dragomanlaw06_RangesBack.mono_l : ∀ k, (∀ y0, LeO (dragomanlaw06_RangesBack.j0 k y0) (dragomanlaw06_RangesBack.j0 (k + 1) y0)) ∧ (∀ y0 y1 y2, LeO (dragomanlaw06_RangesBack.j1 k y0 y1 y2) (dragomanlaw06_RangesBack.j1 (k + 1) y0 y1 y2)) ∧ (∀ y0 y1 y2, LeO (dragomanlaw06_RangesBack.l0 k y0 y1 y2) (dragomanlaw06_RangesBack.l0 (k + 1) y0 y1 y2)) ∧ (∀ y0 y1 y2 y3, LeO (dragomanlaw06_RangesBack.j3 k y0 y1 y2 y3) (dragomanlaw06_RangesBack.j3 (k + 1) y0 y1 y2 y3))
  | 0 => ⟨fun _ r h => by simp [dragomanlaw06_RangesBack.j0] at h, fun _ _ _ r h => by simp [dragomanlaw06_RangesBack.j1] at h, fun _ _ _ r h => by simp [dragomanlaw06_RangesBack.l0] at h, fun _ _ _ _ r h => by simp [dragomanlaw06_RangesBack.j3] at h⟩
  | k + 1 => by
    obtain ⟨ih0, ih1, ih2, ih3⟩ := dragomanlaw06_RangesBack.mono_l k
    refine ⟨?_, ?_, ?_, ?_⟩
    · intro y0
      unfold dragomanlaw06_RangesBack.j0
      repeat' first
      | (with_reducible exact ih0 _)
      | (with_reducible exact ih1 _ _ _)
      | (with_reducible exact ih2 _ _ _)
      | (with_reducible exact ih3 _ _ _ _)
      | (with_reducible exact dragomanlaw06_works.mono _)
      | (with_reducible exact dragomanref06_SamePairs.mono _ _ _)
      | (with_reducible exact ranges_Check.mono _ _)
      | (with_reducible exact ranges_Code.mono _ _ _)
      | (with_reducible exact ranges_Pack.mono _ _)
      | (with_reducible exact ranges_Pairs.mono _ _)
      | (with_reducible exact ranges_Scalar.mono _ _ _)
      | (with_reducible exact LeO.refl _)
      | (with_reducible exact LeO.none _)
      | (with_reducible refine LeO.ite ?_ ?_)
      | (with_reducible refine LeO.bind ?_ (fun _ => ?_))
      | exact ih0 _
      | exact ih1 _ _ _
      | exact ih2 _ _ _
      | exact ih3 _ _ _ _
      | exact dragomanlaw06_works.mono _
      | exact dragomanref06_SamePairs.mono _ _ _
      | exact ranges_Check.mono _ _
      | exact ranges_Code.mono _ _ _
      | exact ranges_Pack.mono _ _
      | exact ranges_Pairs.mono _ _
      | exact ranges_Scalar.mono _ _ _
      | exact LeO.none _
      | refine LeO.ite ?_ ?_
      | refine LeO.bind ?_ (fun _ => ?_)
    · intro y0 y1 y2
      unfold dragomanlaw06_RangesBack.j1
      repeat' first
      | (with_reducible exact ih0 _)
      | (with_reducible exact ih1 _ _ _)
      | (with_reducible exact ih2 _ _ _)
      | (with_reducible exact ih3 _ _ _ _)
      | (with_reducible exact dragomanlaw06_works.mono _)
      | (with_reducible exact dragomanref06_SamePairs.mono _ _ _)
      | (with_reducible exact ranges_Check.mono _ _)
      | (with_reducible exact ranges_Code.mono _ _ _)
      | (with_reducible exact ranges_Pack.mono _ _)
      | (with_reducible exact ranges_Pairs.mono _ _)
      | (with_reducible exact ranges_Scalar.mono _ _ _)
      | (with_reducible exact LeO.refl _)
      | (with_reducible exact LeO.none _)
      | (with_reducible refine LeO.ite ?_ ?_)
      | (with_reducible refine LeO.bind ?_ (fun _ => ?_))
      | exact ih0 _
      | exact ih1 _ _ _
      | exact ih2 _ _ _
      | exact ih3 _ _ _ _
      | exact dragomanlaw06_works.mono _
      | exact dragomanref06_SamePairs.mono _ _ _
      | exact ranges_Check.mono _ _
      | exact ranges_Code.mono _ _ _
      | exact ranges_Pack.mono _ _
      | exact ranges_Pairs.mono _ _
      | exact ranges_Scalar.mono _ _ _
      | exact LeO.none _
      | refine LeO.ite ?_ ?_
      | refine LeO.bind ?_ (fun _ => ?_)
    · intro y0 y1 y2
      unfold dragomanlaw06_RangesBack.l0
      repeat' first
      | (with_reducible exact ih0 _)
      | (with_reducible exact ih1 _ _ _)
      | (with_reducible exact ih2 _ _ _)
      | (with_reducible exact ih3 _ _ _ _)
      | (with_reducible exact dragomanlaw06_works.mono _)
      | (with_reducible exact dragomanref06_SamePairs.mono _ _ _)
      | (with_reducible exact ranges_Check.mono _ _)
      | (with_reducible exact ranges_Code.mono _ _ _)
      | (with_reducible exact ranges_Pack.mono _ _)
      | (with_reducible exact ranges_Pairs.mono _ _)
      | (with_reducible exact ranges_Scalar.mono _ _ _)
      | (with_reducible exact LeO.refl _)
      | (with_reducible exact LeO.none _)
      | (with_reducible refine LeO.ite ?_ ?_)
      | (with_reducible refine LeO.bind ?_ (fun _ => ?_))
      | exact ih0 _
      | exact ih1 _ _ _
      | exact ih2 _ _ _
      | exact ih3 _ _ _ _
      | exact dragomanlaw06_works.mono _
      | exact dragomanref06_SamePairs.mono _ _ _
      | exact ranges_Check.mono _ _
      | exact ranges_Code.mono _ _ _
      | exact ranges_Pack.mono _ _
      | exact ranges_Pairs.mono _ _
      | exact ranges_Scalar.mono _ _ _
      | exact LeO.none _
      | refine LeO.ite ?_ ?_
      | refine LeO.bind ?_ (fun _ => ?_)
    · intro y0 y1 y2 y3
      unfold dragomanlaw06_RangesBack.j3
      repeat' first
      | (with_reducible exact ih0 _)
      | (with_reducible exact ih1 _ _ _)
      | (with_reducible exact ih2 _ _ _)
      | (with_reducible exact ih3 _ _ _ _)
      | (with_reducible exact dragomanlaw06_works.mono _)
      | (with_reducible exact dragomanref06_SamePairs.mono _ _ _)
      | (with_reducible exact ranges_Check.mono _ _)
      | (with_reducible exact ranges_Code.mono _ _ _)
      | (with_reducible exact ranges_Pack.mono _ _)
      | (with_reducible exact ranges_Pairs.mono _ _)
      | (with_reducible exact ranges_Scalar.mono _ _ _)
      | (with_reducible exact LeO.refl _)
      | (with_reducible exact LeO.none _)
      | (with_reducible refine LeO.ite ?_ ?_)
      | (with_reducible refine LeO.bind ?_ (fun _ => ?_))
      | exact ih0 _
      | exact ih1 _ _ _
      | exact ih2 _ _ _
      | exact ih3 _ _ _ _
      | exact dragomanlaw06_works.mono _
      | exact dragomanref06_SamePairs.mono _ _ _
      | exact ranges_Check.mono _ _
      | exact ranges_Code.mono _ _ _
      | exact ranges_Pack.mono _ _
      | exact ranges_Pairs.mono _ _
      | exact ranges_Scalar.mono _ _ _
      | exact LeO.none _
      | refine LeO.ite ?_ ?_
      | refine LeO.bind ?_ (fun _ => ?_)
theorem dragomanlaw06_RangesBack.mono : ∀ a0 a1 k, LeO (dragomanlaw06_RangesBack.f k a0 a1) (dragomanlaw06_RangesBack.f (k + 1) a0 a1) := by
  intro a0 a1 k
  obtain ⟨ih0, ih1, ih2, ih3⟩ := dragomanlaw06_RangesBack.mono_l k
  unfold dragomanlaw06_RangesBack.f
  repeat' first
      | (with_reducible exact ih0 _)
      | (with_reducible exact ih1 _ _ _)
      | (with_reducible exact ih2 _ _ _)
      | (with_reducible exact ih3 _ _ _ _)
      | (with_reducible exact dragomanlaw06_works.mono _)
      | (with_reducible exact dragomanref06_SamePairs.mono _ _ _)
      | (with_reducible exact ranges_Check.mono _ _)
      | (with_reducible exact ranges_Code.mono _ _ _)
      | (with_reducible exact ranges_Pack.mono _ _)
      | (with_reducible exact ranges_Pairs.mono _ _)
      | (with_reducible exact ranges_Scalar.mono _ _ _)
      | (with_reducible exact LeO.refl _)
      | (with_reducible exact LeO.none _)
      | (with_reducible refine LeO.ite ?_ ?_)
      | (with_reducible refine LeO.bind ?_ (fun _ => ?_))
      | exact ih0 _
      | exact ih1 _ _ _
      | exact ih2 _ _ _
      | exact ih3 _ _ _ _
      | exact dragomanlaw06_works.mono _
      | exact dragomanref06_SamePairs.mono _ _ _
      | exact ranges_Check.mono _ _
      | exact ranges_Code.mono _ _ _
      | exact ranges_Pack.mono _ _
      | exact ranges_Pairs.mono _ _
      | exact ranges_Scalar.mono _ _ _
      | exact LeO.none _
      | refine LeO.ite ?_ ?_
      | refine LeO.bind ?_ (fun _ => ?_)
set_option maxHeartbeats 8000000 in
set_option maxRecDepth 100000 in
theorem dragomanlaw06_RangesBack.calls (k : Nat) (A0 : Option Addr) (c0 : Nat) (l0 : List (S41)) (A1 : Option Addr) (c1 : Nat) (l1 : List (S44)) (r : Bool) (w : World) (hr0 : Kd.C k41 w A0 l0.length l0) (hc0 : l0.length ≤ c0) (hr1 : Kd.C k44 w A1 l1.length l1) (hc1 : l1.length ≤ c1) (h : dragomanlaw06_RangesBack.f k l0 l1 = some r) :
    Calls Try.prog 5 #[.slice A0 l0.length c0, .slice A1 l1.length c1] w fun e w' => e = .returned (.bool r) ∧ Below w.heap.size w w' := by
  have HR0 := Aside0.mk hr0
  have HC0 := Aside0.mk hc0
  clear hr0 hc0
  have HR1 := Aside0.mk hr1
  have HC1 := Aside0.mk hc1
  clear hr1 hc1
  have HB := Aside0.mk (Below.refl w.heap.size w)
  have H : ((dragomanlaw06_works.f k).bind fun t149 => (if t149 = true then ((ranges_Check.f k l1).bind fun t150 => (if t150 = 0 then ((ranges_Pairs.f k l1).bind fun t151 => ((ranges_Pack.f k t151).bind fun bt154 => (if bt154.2 = 0 then (if (bt154.1.length : Int) > (l1.length : Int) then (some false) else ((ranges_Pairs.f k bt154.1).bind fun t158 => ((dragomanref06_SamePairs.f k t158 t151).bind fun t161 => (if t161 = true then (dragomanlaw06_RangesBack.j0 k l0) else (some false))))) else (some false)))) else (dragomanlaw06_RangesBack.j0 k l0))) else (some false))) = some r := h
  clear h
  replace H := Option.bind_eq_some_iff.mp H
  obtain ⟨t149, A30, H⟩ := H
  replace H : (if t149 = true then ((ranges_Check.f k l1).bind fun t150 => (if t150 = 0 then ((ranges_Pairs.f k l1).bind fun t151 => ((ranges_Pack.f k t151).bind fun bt154 => (if bt154.2 = 0 then (if (bt154.1.length : Int) > (l1.length : Int) then (some false) else ((ranges_Pairs.f k bt154.1).bind fun t158 => ((dragomanref06_SamePairs.f k t158 t151).bind fun t161 => (if t161 = true then (dragomanlaw06_RangesBack.j0 k l0) else (some false))))) else (some false)))) else (dragomanlaw06_RangesBack.j0 k l0))) else (some false)) = some r := H
  have A3 := Aside0.mk A30
  clear A30
  by_cases c4 : t149 = true
  · subst c4
    have H1 : ((ranges_Check.f k l1).bind fun t150 => (if t150 = 0 then ((ranges_Pairs.f k l1).bind fun t151 => ((ranges_Pack.f k t151).bind fun bt154 => (if bt154.2 = 0 then (if (bt154.1.length : Int) > (l1.length : Int) then (some false) else ((ranges_Pairs.f k bt154.1).bind fun t158 => ((dragomanref06_SamePairs.f k t158 t151).bind fun t161 => (if t161 = true then (dragomanlaw06_RangesBack.j0 k l0) else (some false))))) else (some false)))) else (dragomanlaw06_RangesBack.j0 k l0))) = some r := by rw [if_pos rfl] at H; exact H
    clear H
    have H := H1
    clear H1
    replace H := Option.bind_eq_some_iff.mp H
    obtain ⟨t150, A50, H⟩ := H
    replace H : (if t150 = 0 then ((ranges_Pairs.f k l1).bind fun t151 => ((ranges_Pack.f k t151).bind fun bt154 => (if bt154.2 = 0 then (if (bt154.1.length : Int) > (l1.length : Int) then (some false) else ((ranges_Pairs.f k bt154.1).bind fun t158 => ((dragomanref06_SamePairs.f k t158 t151).bind fun t161 => (if t161 = true then (dragomanlaw06_RangesBack.j0 k l0) else (some false))))) else (some false)))) else (dragomanlaw06_RangesBack.j0 k l0)) = some r := H
    have A5 := Aside0.mk A50
    clear A50
    have HC6 := Aside0.mk H
    clear H
    go_enter Try.func5, Try.ntmps5
    go_upto_if 21 with (first | ((with_reducible refine gate_callee (f := 20) rfl ?_); refine goesL_ (some 17) rfl rfl Try.func20 (by kernel_rfl) rfl #[] rfl (by (try simp only [List.map_toArray, List.map_cons, List.map_nil]); first | done | rfl | (simp only [List.length_drop, List.length_take]; rfl)) ?_; (with_reducible refine (dragomanlaw06_works.calls k  true _ A3.out).mono ?_); rintro e w7 ⟨rfl, hb⟩; refine ⟨_, rfl, ?_⟩; have n0_ := Aside0.mk (below_step (by repeat (first | (with_reducible first | exact HB.out | apply below_alloc | apply pw_below_drewN | apply below_drew1) | exact HB.out)) hb); clear HB; have HB := n0_; clear n0_; (try clear hb); (try clear hb2); (try clear hk); (try clear hi)) | ((with_reducible refine gate_callee (f := 13) rfl ?_); refine goesL_ (some 20) rfl rfl Try.func13 (by kernel_rfl) rfl #[.slice A1 l1.length c1] rfl (by (try simp only [List.map_toArray, List.map_cons, List.map_nil]); first | done | rfl | (simp only [List.length_drop, List.length_take]; rfl)) ?_; (with_reducible refine (ranges_Check.calls k _ _ l1 t150 _ ?side1 ?side2 A5.out).mono ?_); (case side1 => repeat (first | exact (Kd.C_below HR1.out HB.out) | (with_reducible refine Kd.C_alloc ?_ _) | (with_reducible refine Kd.C_drewN ?_ _) | (with_reducible refine Kd.C_drew ?_))); (case side2 => exact HC1.out); rintro e w8 ⟨rfl, hb⟩; refine ⟨_, rfl, ?_⟩; have n0_ := Aside0.mk (below_step (by repeat (first | (with_reducible first | exact HB.out | apply below_alloc | apply pw_below_drewN | apply below_drew1) | exact HB.out)) hb); clear HB; have HB := n0_; clear n0_; (try clear hb); (try clear hb2); (try clear hk); (try clear hi)))
    (try simp only [Act.put, List.setIfInBounds_toArray, List.set_cons_zero, List.set_cons_succ])
    go_cut [] (fun wc => ∃ (kq : Nat), Aside0 (dragomanlaw06_RangesBack.j0 kq l0 = some r) ∧ Aside0 (kq ≤ k) ∧ Aside0 (Below w.heap.size w wc))
    case first =>
      have H := HC6.out
      clear HC6
      by_cases c9 : t150 = 0
      · rw [if_pos c9] at H
        have c9b0 : (t150 == 0) = true := beq_iff_eq.mpr c9
        have c9b1 : (t150 != 0) = false := bne_eq_false_iff_eq.mpr c9
        clear c9
        (first | rw [c9b0] | (simp only [i64_w, i32_w]; rw [c9b0]) | skip)
        replace H := Option.bind_eq_some_iff.mp H
        obtain ⟨t151, A100, H⟩ := H
        replace H : ((ranges_Pack.f k t151).bind fun bt154 => (if bt154.2 = 0 then (if (bt154.1.length : Int) > (l1.length : Int) then (some false) else ((ranges_Pairs.f k bt154.1).bind fun t158 => ((dragomanref06_SamePairs.f k t158 t151).bind fun t161 => (if t161 = true then (dragomanlaw06_RangesBack.j0 k l0) else (some false))))) else (some false))) = some r := H
        have A10 := Aside0.mk A100
        clear A100
        replace H := Option.bind_eq_some_iff.mp H
        obtain ⟨⟨t154, t155⟩, A110, H⟩ := H
        replace H : (if t155 = 0 then (if (t154.length : Int) > (l1.length : Int) then (some false) else ((ranges_Pairs.f k t154).bind fun t158 => ((dragomanref06_SamePairs.f k t158 t151).bind fun t161 => (if t161 = true then (dragomanlaw06_RangesBack.j0 k l0) else (some false))))) else (some false)) = some r := H
        have A11 := Aside0.mk A110
        clear A110
        by_cases c12 : t155 = 0
        · rw [if_pos c12] at H
          have c12b0 : (t155 == 0) = true := beq_iff_eq.mpr c12
          have c12b1 : (t155 != 0) = false := bne_eq_false_iff_eq.mpr c12
          clear c12
          by_cases c13 : (t154.length : Int) > (l1.length : Int)
          · rw [if_pos c13] at H
            have c13b0 : decide ((l1.length : Int) < (t154.length : Int)) = true := decide_eq_true c13
            have c13b1 : decide (l1.length < t154.length) = true := decide_eq_true (Int.ofNat_lt.mp c13)
            clear c13
            obtain rfl := Option.some.inj H
            go_wp2_with (first | ((with_reducible refine gate_callee (f := 15) rfl ?_); refine goesL_ (some 23) rfl rfl Try.func15 (by kernel_rfl) rfl #[.slice A1 l1.length c1] rfl (by (try simp only [List.map_toArray, List.map_cons, List.map_nil]); first | done | rfl | (simp only [List.length_drop, List.length_take]; rfl)) ?_; (with_reducible refine (ranges_Pairs.calls k _ _ l1 t151 _ ?side1 ?side2 A10.out).mono ?_); (case side1 => repeat (first | exact (Kd.C_below HR1.out HB.out) | (with_reducible refine Kd.C_alloc ?_ _) | (with_reducible refine Kd.C_drewN ?_ _) | (with_reducible refine Kd.C_drew ?_))); (case side2 => exact HC1.out); rintro e w14 ⟨v152, rfl, ho0, hb⟩; refine ⟨_, rfl, ?_⟩; have n0_ := Aside0.mk (Kd.R_lower ho0 (below_size (by repeat (first | (with_reducible first | exact HB.out | apply below_alloc | apply pw_below_drewN | apply below_drew1) | exact HB.out)))); have n1_ := Aside0.mk (below_step (by repeat (first | (with_reducible first | exact HB.out | apply below_alloc | apply pw_below_drewN | apply below_drew1) | exact HB.out)) hb); clear HB; have HO153 := n0_; have HB := n1_; clear n0_ n1_; (try clear hb); (try clear hb2); (try clear hk); (try clear hi); (try clear ho0); obtain ⟨Ao15, co15, eo15⟩ := Kd.R_slice HO153.out; subst eo15) | ((with_reducible refine gate_callee (f := 8) rfl ?_); refine goesL_ (some 26) rfl rfl Try.func8 (by kernel_rfl) rfl #[.slice Ao15 t151.length co15] rfl (by (try simp only [List.map_toArray, List.map_cons, List.map_nil]); first | done | rfl | (simp only [List.length_drop, List.length_take]; rfl)) ?_; (with_reducible refine (ranges_Pack.calls k _ _ t151 t154 t155 _ ?side1 ?side2 A11.out).mono ?_); (case side1 => repeat (first | exact (Kd.R_reads' HO153.out).2.2 | (with_reducible refine Kd.C_alloc ?_ _) | (with_reducible refine Kd.C_drewN ?_ _) | (with_reducible refine Kd.C_drew ?_))); (case side2 => exact (Kd.R_reads' HO153.out).2.1); rintro e w16 ⟨v156, rfl, ho0, hb⟩; refine ⟨_, rfl, ?_⟩; have n0_ := Aside0.mk (Kd.R_below (by (with_reducible repeat (first | apply Kd.R_alloc | apply Kd.R_drewN | apply Kd.R_drew)); exact HO153.out) hb); have n1_ := Aside0.mk (Kd.R_lower ho0 (below_size (by repeat (first | (with_reducible first | exact HB.out | apply below_alloc | apply pw_below_drewN | apply below_drew1) | exact HB.out)))); have n2_ := Aside0.mk (below_step (by repeat (first | (with_reducible first | exact HB.out | apply below_alloc | apply pw_below_drewN | apply below_drew1) | exact HB.out)) hb); clear HO153; clear HB; have HO153 := n0_; have HO157 := n1_; have HB := n2_; clear n0_ n1_ n2_; (try clear hb); (try clear hb2); (try clear hk); (try clear hi); (try clear ho0); obtain ⟨Ao17, co17, eo17⟩ := Kd.R_slice HO157.out; subst eo17))
            go_ret
            exact ⟨by first | rfl | (simp [errW_none, errW_some] <;> rfl) | (simp [*, errW_none, errW_some] <;> rfl), by repeat (first | (with_reducible first | exact HB.out | apply below_alloc | apply pw_below_drewN | apply below_drew1) | exact HB.out)⟩
          · rw [if_neg c13] at H
            have c13b0 : decide ((l1.length : Int) < (t154.length : Int)) = false := decide_eq_false c13
            have c13b1 : decide (l1.length < t154.length) = false := decide_eq_false (fun h => c13 (Int.ofNat_lt.mpr h))
            clear c13
            replace H := Option.bind_eq_some_iff.mp H
            obtain ⟨t158, A180, H⟩ := H
            replace H : ((dragomanref06_SamePairs.f k t158 t151).bind fun t161 => (if t161 = true then (dragomanlaw06_RangesBack.j0 k l0) else (some false))) = some r := H
            have A18 := Aside0.mk A180
            clear A180
            replace H := Option.bind_eq_some_iff.mp H
            obtain ⟨t161, A190, H⟩ := H
            replace H : (if t161 = true then (dragomanlaw06_RangesBack.j0 k l0) else (some false)) = some r := H
            have A19 := Aside0.mk A190
            clear A190
            by_cases c20 : t161 = true
            · subst c20
              have H1 : (dragomanlaw06_RangesBack.j0 k l0) = some r := by rw [if_pos rfl] at H; exact H
              clear H
              have H := H1
              clear H1
              have H' := Aside0.mk H
              clear H
              go_wp2_with (first | ((with_reducible refine gate_callee (f := 15) rfl ?_); refine goesL_ (some 23) rfl rfl Try.func15 (by kernel_rfl) rfl #[.slice A1 l1.length c1] rfl (by (try simp only [List.map_toArray, List.map_cons, List.map_nil]); first | done | rfl | (simp only [List.length_drop, List.length_take]; rfl)) ?_; (with_reducible refine (ranges_Pairs.calls k _ _ l1 t151 _ ?side1 ?side2 A10.out).mono ?_); (case side1 => repeat (first | exact (Kd.C_below HR1.out HB.out) | (with_reducible refine Kd.C_alloc ?_ _) | (with_reducible refine Kd.C_drewN ?_ _) | (with_reducible refine Kd.C_drew ?_))); (case side2 => exact HC1.out); rintro e w21 ⟨v152, rfl, ho0, hb⟩; refine ⟨_, rfl, ?_⟩; have n0_ := Aside0.mk (Kd.R_lower ho0 (below_size (by repeat (first | (with_reducible first | exact HB.out | apply below_alloc | apply pw_below_drewN | apply below_drew1) | exact HB.out)))); have n1_ := Aside0.mk (below_step (by repeat (first | (with_reducible first | exact HB.out | apply below_alloc | apply pw_below_drewN | apply below_drew1) | exact HB.out)) hb); clear HB; have HO153 := n0_; have HB := n1_; clear n0_ n1_; (try clear hb); (try clear hb2); (try clear hk); (try clear hi); (try clear ho0); obtain ⟨Ao22, co22, eo22⟩ := Kd.R_slice HO153.out; subst eo22) | ((with_reducible refine gate_callee (f := 8) rfl ?_); refine goesL_ (some 26) rfl rfl Try.func8 (by kernel_rfl) rfl #[.slice Ao22 t151.length co22] rfl (by (try simp only [List.map_toArray, List.map_cons, List.map_nil]); first | done | rfl | (simp only [List.length_drop, List.length_take]; rfl)) ?_; (with_reducible refine (ranges_Pack.calls k _ _ t151 t154 t155 _ ?side1 ?side2 A11.out).mono ?_); (case side1 => repeat (first | exact (Kd.R_reads' HO153.out).2.2 | (with_reducible refine Kd.C_alloc ?_ _) | (with_reducible refine Kd.C_drewN ?_ _) | (with_reducible refine Kd.C_drew ?_))); (case side2 => exact (Kd.R_reads' HO153.out).2.1); rintro e w23 ⟨v156, rfl, ho0, hb⟩; refine ⟨_, rfl, ?_⟩; have n0_ := Aside0.mk (Kd.R_below (by (with_reducible repeat (first | apply Kd.R_alloc | apply Kd.R_drewN | apply Kd.R_drew)); exact HO153.out) hb); have n1_ := Aside0.mk (Kd.R_lower ho0 (below_size (by repeat (first | (with_reducible first | exact HB.out | apply below_alloc | apply pw_below_drewN | apply below_drew1) | exact HB.out)))); have n2_ := Aside0.mk (below_step (by repeat (first | (with_reducible first | exact HB.out | apply below_alloc | apply pw_below_drewN | apply below_drew1) | exact HB.out)) hb); clear HO153; clear HB; have HO153 := n0_; have HO157 := n1_; have HB := n2_; clear n0_ n1_ n2_; (try clear hb); (try clear hb2); (try clear hk); (try clear hi); (try clear ho0); obtain ⟨Ao24, co24, eo24⟩ := Kd.R_slice HO157.out; subst eo24) | (go_at_call 15; (with_reducible refine (ranges_Pairs.calls k _ _ t154 t158 _ ?side1 ?side2 A18.out).mono ?_); (case side1 => repeat (first | exact (Kd.R_reads' HO157.out).2.2 | (with_reducible refine Kd.C_alloc ?_ _) | (with_reducible refine Kd.C_drewN ?_ _) | (with_reducible refine Kd.C_drew ?_))); (case side2 => exact (Kd.R_reads' HO157.out).2.1); rintro e w25 ⟨v159, rfl, ho0, hb⟩; have n0_ := Aside0.mk (Kd.R_elder' (by (with_reducible repeat (first | apply Kd.R_alloc | apply Kd.R_drewN | apply Kd.R_drew)); exact HO153.out) (Kd.R_base ho0) hb); have n1_ := Aside0.mk (Kd.R_below (by (with_reducible repeat (first | apply Kd.R_alloc | apply Kd.R_drewN | apply Kd.R_drew)); exact HO157.out) hb); have n2_ := Aside0.mk (Kd.R_lower (Kd.R_new' ho0 (Kd.R_lt (by (with_reducible repeat (first | apply Kd.R_alloc | apply Kd.R_drewN | apply Kd.R_drew)); exact HO153.out))) (below_size (by repeat (first | (with_reducible first | exact HB.out | apply below_alloc | apply pw_below_drewN | apply below_drew1) | exact HB.out)))); have n3_ := Aside0.mk (below_step (by repeat (first | (with_reducible first | exact HB.out | apply below_alloc | apply pw_below_drewN | apply below_drew1) | exact HB.out)) hb); clear HO153; clear HO157; clear HB; have HO153 := n0_; have HO157 := n1_; have HO160 := n2_; have HB := n3_; clear n0_ n1_ n2_ n3_; (try clear hb); (try clear hb2); (try clear hk); (try clear hi); (try clear ho0); obtain ⟨Ao26, co26, eo26⟩ := Kd.R_slice HO160.out; subst eo26) | (go_at_call 11; (with_reducible refine (dragomanref06_SamePairs.calls k _ _ t158 _ _ t151 true _ ?side1 ?side2 ?side3 ?side4 A19.out).mono ?_); (case side1 => repeat (first | exact (Kd.R_reads' HO160.out).2.2 | (with_reducible refine Kd.C_alloc ?_ _) | (with_reducible refine Kd.C_drewN ?_ _) | (with_reducible refine Kd.C_drew ?_))); (case side2 => exact (Kd.R_reads' HO160.out).2.1); (case side3 => repeat (first | exact (Kd.R_reads' HO153.out).2.2 | (with_reducible refine Kd.C_alloc ?_ _) | (with_reducible refine Kd.C_drewN ?_ _) | (with_reducible refine Kd.C_drew ?_))); (case side4 => exact (Kd.R_reads' HO153.out).2.1); rintro e w' ⟨rfl, ⟨nd, rfl⟩⟩))
              go_meet
              case rel => exact ⟨_, H', ⟨by first | omega | exact Nat.le_refl _⟩, ⟨by repeat (first | (with_reducible first | exact HB.out | apply below_alloc | apply pw_below_drewN | apply below_drew1) | exact HB.out)⟩⟩
            · replace c20 := Bool.eq_false_iff.mpr c20
              subst c20
              have H1 : (some false) = some r := by rw [if_neg (show ¬ (false = true) by decide)] at H; exact H
              clear H
              have H := H1
              clear H1
              obtain rfl := Option.some.inj H
              go_wp2_with (first | ((with_reducible refine gate_callee (f := 15) rfl ?_); refine goesL_ (some 23) rfl rfl Try.func15 (by kernel_rfl) rfl #[.slice A1 l1.length c1] rfl (by (try simp only [List.map_toArray, List.map_cons, List.map_nil]); first | done | rfl | (simp only [List.length_drop, List.length_take]; rfl)) ?_; (with_reducible refine (ranges_Pairs.calls k _ _ l1 t151 _ ?side1 ?side2 A10.out).mono ?_); (case side1 => repeat (first | exact (Kd.C_below HR1.out HB.out) | (with_reducible refine Kd.C_alloc ?_ _) | (with_reducible refine Kd.C_drewN ?_ _) | (with_reducible refine Kd.C_drew ?_))); (case side2 => exact HC1.out); rintro e w27 ⟨v152, rfl, ho0, hb⟩; refine ⟨_, rfl, ?_⟩; have n0_ := Aside0.mk (Kd.R_lower ho0 (below_size (by repeat (first | (with_reducible first | exact HB.out | apply below_alloc | apply pw_below_drewN | apply below_drew1) | exact HB.out)))); have n1_ := Aside0.mk (below_step (by repeat (first | (with_reducible first | exact HB.out | apply below_alloc | apply pw_below_drewN | apply below_drew1) | exact HB.out)) hb); clear HB; have HO153 := n0_; have HB := n1_; clear n0_ n1_; (try clear hb); (try clear hb2); (try clear hk); (try clear hi); (try clear ho0); obtain ⟨Ao28, co28, eo28⟩ := Kd.R_slice HO153.out; subst eo28) | ((with_reducible refine gate_callee (f := 8) rfl ?_); refine goesL_ (some 26) rfl rfl Try.func8 (by kernel_rfl) rfl #[.slice Ao28 t151.length co28] rfl (by (try simp only [List.map_toArray, List.map_cons, List.map_nil]); first | done | rfl | (simp only [List.length_drop, List.length_take]; rfl)) ?_; (with_reducible refine (ranges_Pack.calls k _ _ t151 t154 t155 _ ?side1 ?side2 A11.out).mono ?_); (case side1 => repeat (first | exact (Kd.R_reads' HO153.out).2.2 | (with_reducible refine Kd.C_alloc ?_ _) | (with_reducible refine Kd.C_drewN ?_ _) | (with_reducible refine Kd.C_drew ?_))); (case side2 => exact (Kd.R_reads' HO153.out).2.1); rintro e w29 ⟨v156, rfl, ho0, hb⟩; refine ⟨_, rfl, ?_⟩; have n0_ := Aside0.mk (Kd.R_below (by (with_reducible repeat (first | apply Kd.R_alloc | apply Kd.R_drewN | apply Kd.R_drew)); exact HO153.out) hb); have n1_ := Aside0.mk (Kd.R_lower ho0 (below_size (by repeat (first | (with_reducible first | exact HB.out | apply below_alloc | apply pw_below_drewN | apply below_drew1) | exact HB.out)))); have n2_ := Aside0.mk (below_step (by repeat (first | (with_reducible first | exact HB.out | apply below_alloc | apply pw_below_drewN | apply below_drew1) | exact HB.out)) hb); clear HO153; clear HB; have HO153 := n0_; have HO157 := n1_; have HB := n2_; clear n0_ n1_ n2_; (try clear hb); (try clear hb2); (try clear hk); (try clear hi); (try clear ho0); obtain ⟨Ao30, co30, eo30⟩ := Kd.R_slice HO157.out; subst eo30) | (go_at_call 15; (with_reducible refine (ranges_Pairs.calls k _ _ t154 t158 _ ?side1 ?side2 A18.out).mono ?_); (case side1 => repeat (first | exact (Kd.R_reads' HO157.out).2.2 | (with_reducible refine Kd.C_alloc ?_ _) | (with_reducible refine Kd.C_drewN ?_ _) | (with_reducible refine Kd.C_drew ?_))); (case side2 => exact (Kd.R_reads' HO157.out).2.1); rintro e w31 ⟨v159, rfl, ho0, hb⟩; have n0_ := Aside0.mk (Kd.R_elder' (by (with_reducible repeat (first | apply Kd.R_alloc | apply Kd.R_drewN | apply Kd.R_drew)); exact HO153.out) (Kd.R_base ho0) hb); have n1_ := Aside0.mk (Kd.R_below (by (with_reducible repeat (first | apply Kd.R_alloc | apply Kd.R_drewN | apply Kd.R_drew)); exact HO157.out) hb); have n2_ := Aside0.mk (Kd.R_lower (Kd.R_new' ho0 (Kd.R_lt (by (with_reducible repeat (first | apply Kd.R_alloc | apply Kd.R_drewN | apply Kd.R_drew)); exact HO153.out))) (below_size (by repeat (first | (with_reducible first | exact HB.out | apply below_alloc | apply pw_below_drewN | apply below_drew1) | exact HB.out)))); have n3_ := Aside0.mk (below_step (by repeat (first | (with_reducible first | exact HB.out | apply below_alloc | apply pw_below_drewN | apply below_drew1) | exact HB.out)) hb); clear HO153; clear HO157; clear HB; have HO153 := n0_; have HO157 := n1_; have HO160 := n2_; have HB := n3_; clear n0_ n1_ n2_ n3_; (try clear hb); (try clear hb2); (try clear hk); (try clear hi); (try clear ho0); obtain ⟨Ao32, co32, eo32⟩ := Kd.R_slice HO160.out; subst eo32) | (go_at_call 11; (with_reducible refine (dragomanref06_SamePairs.calls k _ _ t158 _ _ t151 false _ ?side1 ?side2 ?side3 ?side4 A19.out).mono ?_); (case side1 => repeat (first | exact (Kd.R_reads' HO160.out).2.2 | (with_reducible refine Kd.C_alloc ?_ _) | (with_reducible refine Kd.C_drewN ?_ _) | (with_reducible refine Kd.C_drew ?_))); (case side2 => exact (Kd.R_reads' HO160.out).2.1); (case side3 => repeat (first | exact (Kd.R_reads' HO153.out).2.2 | (with_reducible refine Kd.C_alloc ?_ _) | (with_reducible refine Kd.C_drewN ?_ _) | (with_reducible refine Kd.C_drew ?_))); (case side4 => exact (Kd.R_reads' HO153.out).2.1); rintro e w' ⟨rfl, ⟨nd, rfl⟩⟩))
              go_ret
              exact ⟨by first | rfl | (simp [errW_none, errW_some] <;> rfl) | (simp [*, errW_none, errW_some] <;> rfl), by repeat (first | (with_reducible first | exact HB.out | apply below_alloc | apply pw_below_drewN | apply below_drew1) | exact HB.out)⟩
        · rw [if_neg c12] at H
          have c12b0 : (t155 == 0) = false := beq_eq_false_iff_ne.mpr c12
          have c12b1 : (t155 != 0) = true := bne_iff_ne.mpr c12
          obtain rfl := Option.some.inj H
          go_wp2_with (first | ((with_reducible refine gate_callee (f := 15) rfl ?_); refine goesL_ (some 23) rfl rfl Try.func15 (by kernel_rfl) rfl #[.slice A1 l1.length c1] rfl (by (try simp only [List.map_toArray, List.map_cons, List.map_nil]); first | done | rfl | (simp only [List.length_drop, List.length_take]; rfl)) ?_; (with_reducible refine (ranges_Pairs.calls k _ _ l1 t151 _ ?side1 ?side2 A10.out).mono ?_); (case side1 => repeat (first | exact (Kd.C_below HR1.out HB.out) | (with_reducible refine Kd.C_alloc ?_ _) | (with_reducible refine Kd.C_drewN ?_ _) | (with_reducible refine Kd.C_drew ?_))); (case side2 => exact HC1.out); rintro e w33 ⟨v152, rfl, ho0, hb⟩; refine ⟨_, rfl, ?_⟩; have n0_ := Aside0.mk (Kd.R_lower ho0 (below_size (by repeat (first | (with_reducible first | exact HB.out | apply below_alloc | apply pw_below_drewN | apply below_drew1) | exact HB.out)))); have n1_ := Aside0.mk (below_step (by repeat (first | (with_reducible first | exact HB.out | apply below_alloc | apply pw_below_drewN | apply below_drew1) | exact HB.out)) hb); clear HB; have HO153 := n0_; have HB := n1_; clear n0_ n1_; (try clear hb); (try clear hb2); (try clear hk); (try clear hi); (try clear ho0); obtain ⟨Ao34, co34, eo34⟩ := Kd.R_slice HO153.out; subst eo34) | ((with_reducible refine gate_callee (f := 8) rfl ?_); refine goesL_ (some 26) rfl rfl Try.func8 (by kernel_rfl) rfl #[.slice Ao34 t151.length co34] rfl (by (try simp only [List.map_toArray, List.map_cons, List.map_nil]); first | done | rfl | (simp only [List.length_drop, List.length_take]; rfl)) ?_; (with_reducible refine (ranges_Pack.calls k _ _ t151 t154 t155 _ ?side1 ?side2 A11.out).mono ?_); (case side1 => repeat (first | exact (Kd.R_reads' HO153.out).2.2 | (with_reducible refine Kd.C_alloc ?_ _) | (with_reducible refine Kd.C_drewN ?_ _) | (with_reducible refine Kd.C_drew ?_))); (case side2 => exact (Kd.R_reads' HO153.out).2.1); rintro e w35 ⟨v156, rfl, ho0, hb⟩; refine ⟨_, rfl, ?_⟩; have n0_ := Aside0.mk (Kd.R_below (by (with_reducible repeat (first | apply Kd.R_alloc | apply Kd.R_drewN | apply Kd.R_drew)); exact HO153.out) hb); have n1_ := Aside0.mk (Kd.R_lower ho0 (below_size (by repeat (first | (with_reducible first | exact HB.out | apply below_alloc | apply pw_below_drewN | apply below_drew1) | exact HB.out)))); have n2_ := Aside0.mk (below_step (by repeat (first | (with_reducible first | exact HB.out | apply below_alloc | apply pw_below_drewN | apply below_drew1) | exact HB.out)) hb); clear HO153; clear HB; have HO153 := n0_; have HO157 := n1_; have HB := n2_; clear n0_ n1_ n2_; (try clear hb); (try clear hb2); (try clear hk); (try clear hi); (try clear ho0)))
          go_ret
          exact ⟨by first | rfl | (simp [errW_none, errW_some] <;> rfl) | (simp [*, errW_none, errW_some] <;> rfl), by repeat (first | (with_reducible first | exact HB.out | apply below_alloc | apply pw_below_drewN | apply below_drew1) | exact HB.out)⟩
      · rw [if_neg c9] at H
        have c9b0 : (t150 == 0) = false := beq_eq_false_iff_ne.mpr c9
        have c9b1 : (t150 != 0) = true := bne_iff_ne.mpr c9
        (first | rw [c9b0] | (simp only [i64_w, i32_w]; rw [c9b0]) | skip)
        have H' := Aside0.mk H
        clear H
        go_wp2
        go_meet
        case rel => exact ⟨_, H', ⟨by first | omega | exact Nat.le_refl _⟩, ⟨by repeat (first | (with_reducible first | exact HB.out | apply below_alloc | apply pw_below_drewN | apply below_drew1) | exact HB.out)⟩⟩
    case rest =>
      clear HC6
      try clear c1
      try clear c2
      try clear p2
      try clear c4
      try clear c5
      try clear c8
      try clear c9
      try clear c9b0
      try clear c9b1
      try clear c12
      try clear c12b0
      try clear c12b1
      try clear c13
      try clear c13b0
      try clear c13b1
      try clear c15
      try clear c20
      obtain ⟨kq, HA, HJ5, HB⟩ := hcut
      cases kq with
      | zero => exact absurd HA.out (by simp [dragomanlaw06_RangesBack.j0])
      | succ kj5 =>
        have H := HA.out
        clear HA
        simp only [dragomanlaw06_RangesBack.j0] at H
        replace H := Option.bind_eq_some_iff.mp H
        obtain ⟨⟨t162, t163⟩, A360, H⟩ := H
        replace H : (if t163 = 0 then ((ranges_Check.f kj5 t162).bind fun t166 => (if t166 = 0 then ((ranges_Pairs.f kj5 t162).bind fun t167 => ((dragomanref06_SamePairs.f kj5 t167 l0).bind fun t170 => (if t170 = true then (dragomanlaw06_RangesBack.j1 kj5 l0 t162 (decide ((t162.length : Int) > (l0.length : Int)))) else (dragomanlaw06_RangesBack.j1 kj5 l0 t162 true)))) else (dragomanlaw06_RangesBack.j1 kj5 l0 t162 true))) else (some ((t162.length : Int) == 0))) = some r := H
        have A36 := Aside0.mk A360
        clear A360
        by_cases c37 : t163 = 0
        · rw [if_pos c37] at H
          have c37b0 : (t163 == 0) = true := beq_iff_eq.mpr c37
          have c37b1 : (t163 != 0) = false := bne_eq_false_iff_eq.mpr c37
          clear c37
          have HC38 := Aside0.mk H
          clear H
          go_upto_region 11 with (first | ((with_reducible refine gate_callee (f := 8) rfl ?_); refine goesL_ (some 47) rfl rfl Try.func8 (by kernel_rfl) rfl #[.slice A0 l0.length c0] rfl (by (try simp only [List.map_toArray, List.map_cons, List.map_nil]); first | done | rfl | (simp only [List.length_drop, List.length_take]; rfl)) ?_; (with_reducible refine (ranges_Pack.calls kj5 _ _ l0 t162 t163 _ ?side1 ?side2 A36.out).mono ?_); (case side1 => repeat (first | exact (Kd.C_below HR0.out HB.out) | (with_reducible refine Kd.C_alloc ?_ _) | (with_reducible refine Kd.C_drewN ?_ _) | (with_reducible refine Kd.C_drew ?_))); (case side2 => exact HC0.out); rintro e w39 ⟨v164, rfl, ho0, hb⟩; refine ⟨_, rfl, ?_⟩; have n0_ := Aside0.mk (Kd.R_lower ho0 (below_size (by repeat (first | (with_reducible first | exact HB.out | apply below_alloc | apply pw_below_drewN | apply below_drew1) | exact HB.out)))); have n1_ := Aside0.mk (below_step (by repeat (first | (with_reducible first | exact HB.out | apply below_alloc | apply pw_below_drewN | apply below_drew1) | exact HB.out)) hb); clear HB; have HO165 := n0_; have HB := n1_; clear n0_ n1_; (try clear hb); (try clear hb2); (try clear hk); (try clear hi); (try clear ho0)))
          (try simp only [Act.put, List.setIfInBounds_toArray, List.set_cons_zero, List.set_cons_succ])
          go_cut [71] (fun v71 wc => ∃ (kq : Nat) (x71_37 : Bool), v71 = .bool x71_37 ∧ Aside0 (dragomanlaw06_RangesBack.j1 kq l0 t162 x71_37 = some r) ∧ Aside0 (kq ≤ kj5) ∧ Aside0 (Kd.R k44 44 wc w.heap.size (fun _ => True) v164 t162) ∧ Aside0 (Below w.heap.size w wc))
          case first =>
            have H := HC38.out
            clear HC38
            replace H := Option.bind_eq_some_iff.mp H
            obtain ⟨t166, A400, H⟩ := H
            replace H : (if t166 = 0 then ((ranges_Pairs.f kj5 t162).bind fun t167 => ((dragomanref06_SamePairs.f kj5 t167 l0).bind fun t170 => (if t170 = true then (dragomanlaw06_RangesBack.j1 kj5 l0 t162 (decide ((t162.length : Int) > (l0.length : Int)))) else (dragomanlaw06_RangesBack.j1 kj5 l0 t162 true)))) else (dragomanlaw06_RangesBack.j1 kj5 l0 t162 true)) = some r := H
            have A40 := Aside0.mk A400
            clear A400
            by_cases c41 : t166 = 0
            · rw [if_pos c41] at H
              have c41b0 : (t166 == 0) = true := beq_iff_eq.mpr c41
              have c41b1 : (t166 != 0) = false := bne_eq_false_iff_eq.mpr c41
              clear c41
              (first | rw [c41b0] | (simp only [i64_w, i32_w]; rw [c41b0]) | skip)
              replace H := Option.bind_eq_some_iff.mp H
              obtain ⟨t167, A420, H⟩ := H
              replace H : ((dragomanref06_SamePairs.f kj5 t167 l0).bind fun t170 => (if t170 = true then (dragomanlaw06_RangesBack.j1 kj5 l0 t162 (decide ((t162.length : Int) > (l0.length : Int)))) else (dragomanlaw06_RangesBack.j1 kj5 l0 t162 true))) = some r := H
              have A42 := Aside0.mk A420
              clear A420
              replace H := Option.bind_eq_some_iff.mp H
              obtain ⟨t170, A430, H⟩ := H
              replace H : (if t170 = true then (dragomanlaw06_RangesBack.j1 kj5 l0 t162 (decide ((t162.length : Int) > (l0.length : Int)))) else (dragomanlaw06_RangesBack.j1 kj5 l0 t162 true)) = some r := H
              have A43 := Aside0.mk A430
              clear A430
              by_cases c44 : t170 = true
              · subst c44
                have H1 : (dragomanlaw06_RangesBack.j1 kj5 l0 t162 (decide ((t162.length : Int) > (l0.length : Int)))) = some r := by rw [if_pos rfl] at H; exact H
                clear H
                have H := H1
                clear H1
                have H' := Aside0.mk H
                clear H
                obtain ⟨Ao45, co45, eo45⟩ := Kd.R_slice HO165.out
                subst eo45
                go_wp2_with (first | ((with_reducible refine gate_callee (f := 13) rfl ?_); refine goesL_ (some 56) rfl rfl Try.func13 (by kernel_rfl) rfl #[.slice Ao45 t162.length co45] rfl (by (try simp only [List.map_toArray, List.map_cons, List.map_nil]); first | done | rfl | (simp only [List.length_drop, List.length_take]; rfl)) ?_; (with_reducible refine (ranges_Check.calls kj5 _ _ t162 t166 _ ?side1 ?side2 A40.out).mono ?_); (case side1 => repeat (first | exact (Kd.R_reads' HO165.out).2.2 | (with_reducible refine Kd.C_alloc ?_ _) | (with_reducible refine Kd.C_drewN ?_ _) | (with_reducible refine Kd.C_drew ?_))); (case side2 => exact (Kd.R_reads' HO165.out).2.1); rintro e w46 ⟨rfl, hb⟩; refine ⟨_, rfl, ?_⟩; have n0_ := Aside0.mk (Kd.R_below (by (with_reducible repeat (first | apply Kd.R_alloc | apply Kd.R_drewN | apply Kd.R_drew)); exact HO165.out) hb); have n1_ := Aside0.mk (below_step (by repeat (first | (with_reducible first | exact HB.out | apply below_alloc | apply pw_below_drewN | apply below_drew1) | exact HB.out)) hb); clear HO165; clear HB; have HO165 := n0_; have HB := n1_; clear n0_ n1_; (try clear hb); (try clear hb2); (try clear hk); (try clear hi)) | (go_at_call 15; (with_reducible refine (ranges_Pairs.calls kj5 _ _ t162 t167 _ ?side1 ?side2 A42.out).mono ?_); (case side1 => repeat (first | exact (Kd.R_reads' HO165.out).2.2 | (with_reducible refine Kd.C_alloc ?_ _) | (with_reducible refine Kd.C_drewN ?_ _) | (with_reducible refine Kd.C_drew ?_))); (case side2 => exact (Kd.R_reads' HO165.out).2.1); rintro e w47 ⟨v168, rfl, ho0, hb⟩; have n0_ := Aside0.mk (Kd.R_below (by (with_reducible repeat (first | apply Kd.R_alloc | apply Kd.R_drewN | apply Kd.R_drew)); exact HO165.out) hb); have n1_ := Aside0.mk (Kd.R_lower ho0 (below_size (by repeat (first | (with_reducible first | exact HB.out | apply below_alloc | apply pw_below_drewN | apply below_drew1) | exact HB.out)))); have n2_ := Aside0.mk (below_step (by repeat (first | (with_reducible first | exact HB.out | apply below_alloc | apply pw_below_drewN | apply below_drew1) | exact HB.out)) hb); clear HO165; clear HB; have HO165 := n0_; have HO169 := n1_; have HB := n2_; clear n0_ n1_ n2_; (try clear hb); (try clear hb2); (try clear hk); (try clear hi); (try clear ho0); obtain ⟨Ao48, co48, eo48⟩ := Kd.R_slice HO169.out; subst eo48) | (go_at_call 11; (with_reducible refine (dragomanref06_SamePairs.calls kj5 _ _ t167 _ _ l0 true _ ?side1 ?side2 ?side3 ?side4 A43.out).mono ?_); (case side1 => repeat (first | exact (Kd.R_reads' HO169.out).2.2 | (with_reducible refine Kd.C_alloc ?_ _) | (with_reducible refine Kd.C_drewN ?_ _) | (with_reducible refine Kd.C_drew ?_))); (case side2 => exact (Kd.R_reads' HO169.out).2.1); (case side3 => repeat (first | exact (Kd.C_below HR0.out HB.out) | (with_reducible refine Kd.C_alloc ?_ _) | (with_reducible refine Kd.C_drewN ?_ _) | (with_reducible refine Kd.C_drew ?_))); (case side4 => exact HC0.out); rintro e w' ⟨rfl, ⟨nd, rfl⟩⟩))
                go_meet
                case rel => exact ⟨_, (decide ((t162.length : Int) > (l0.length : Int))), (by first | rfl | (simp; done) | (simp [*]; done)), H', ⟨by have := HJ5.out; first | omega | exact Nat.le_refl _⟩, ⟨by (with_reducible repeat (first | apply Kd.R_alloc | apply Kd.R_drewN | apply Kd.R_drew)); exact HO165.out⟩, ⟨by repeat (first | (with_reducible first | exact HB.out | apply below_alloc | apply pw_below_drewN | apply below_drew1) | exact HB.out)⟩⟩
              · replace c44 := Bool.eq_false_iff.mpr c44
                subst c44
                have H1 : (dragomanlaw06_RangesBack.j1 kj5 l0 t162 true) = some r := by rw [if_neg (show ¬ (false = true) by decide)] at H; exact H
                clear H
                have H := H1
                clear H1
                have H' := Aside0.mk H
                clear H
                obtain ⟨Ao49, co49, eo49⟩ := Kd.R_slice HO165.out
                subst eo49
                go_wp2_with (first | ((with_reducible refine gate_callee (f := 13) rfl ?_); refine goesL_ (some 56) rfl rfl Try.func13 (by kernel_rfl) rfl #[.slice Ao49 t162.length co49] rfl (by (try simp only [List.map_toArray, List.map_cons, List.map_nil]); first | done | rfl | (simp only [List.length_drop, List.length_take]; rfl)) ?_; (with_reducible refine (ranges_Check.calls kj5 _ _ t162 t166 _ ?side1 ?side2 A40.out).mono ?_); (case side1 => repeat (first | exact (Kd.R_reads' HO165.out).2.2 | (with_reducible refine Kd.C_alloc ?_ _) | (with_reducible refine Kd.C_drewN ?_ _) | (with_reducible refine Kd.C_drew ?_))); (case side2 => exact (Kd.R_reads' HO165.out).2.1); rintro e w50 ⟨rfl, hb⟩; refine ⟨_, rfl, ?_⟩; have n0_ := Aside0.mk (Kd.R_below (by (with_reducible repeat (first | apply Kd.R_alloc | apply Kd.R_drewN | apply Kd.R_drew)); exact HO165.out) hb); have n1_ := Aside0.mk (below_step (by repeat (first | (with_reducible first | exact HB.out | apply below_alloc | apply pw_below_drewN | apply below_drew1) | exact HB.out)) hb); clear HO165; clear HB; have HO165 := n0_; have HB := n1_; clear n0_ n1_; (try clear hb); (try clear hb2); (try clear hk); (try clear hi)) | (go_at_call 15; (with_reducible refine (ranges_Pairs.calls kj5 _ _ t162 t167 _ ?side1 ?side2 A42.out).mono ?_); (case side1 => repeat (first | exact (Kd.R_reads' HO165.out).2.2 | (with_reducible refine Kd.C_alloc ?_ _) | (with_reducible refine Kd.C_drewN ?_ _) | (with_reducible refine Kd.C_drew ?_))); (case side2 => exact (Kd.R_reads' HO165.out).2.1); rintro e w51 ⟨v168, rfl, ho0, hb⟩; have n0_ := Aside0.mk (Kd.R_below (by (with_reducible repeat (first | apply Kd.R_alloc | apply Kd.R_drewN | apply Kd.R_drew)); exact HO165.out) hb); have n1_ := Aside0.mk (Kd.R_lower ho0 (below_size (by repeat (first | (with_reducible first | exact HB.out | apply below_alloc | apply pw_below_drewN | apply below_drew1) | exact HB.out)))); have n2_ := Aside0.mk (below_step (by repeat (first | (with_reducible first | exact HB.out | apply below_alloc | apply pw_below_drewN | apply below_drew1) | exact HB.out)) hb); clear HO165; clear HB; have HO165 := n0_; have HO169 := n1_; have HB := n2_; clear n0_ n1_ n2_; (try clear hb); (try clear hb2); (try clear hk); (try clear hi); (try clear ho0); obtain ⟨Ao52, co52, eo52⟩ := Kd.R_slice HO169.out; subst eo52) | (go_at_call 11; (with_reducible refine (dragomanref06_SamePairs.calls kj5 _ _ t167 _ _ l0 false _ ?side1 ?side2 ?side3 ?side4 A43.out).mono ?_); (case side1 => repeat (first | exact (Kd.R_reads' HO169.out).2.2 | (with_reducible refine Kd.C_alloc ?_ _) | (with_reducible refine Kd.C_drewN ?_ _) | (with_reducible refine Kd.C_drew ?_))); (case side2 => exact (Kd.R_reads' HO169.out).2.1); (case side3 => repeat (first | exact (Kd.C_below HR0.out HB.out) | (with_reducible refine Kd.C_alloc ?_ _) | (with_reducible refine Kd.C_drewN ?_ _) | (with_reducible refine Kd.C_drew ?_))); (case side4 => exact HC0.out); rintro e w' ⟨rfl, ⟨nd, rfl⟩⟩))
                go_meet
                case rel => exact ⟨_, (true), (by first | rfl | (simp; done) | (simp [*]; done)), H', ⟨by have := HJ5.out; first | omega | exact Nat.le_refl _⟩, ⟨by (with_reducible repeat (first | apply Kd.R_alloc | apply Kd.R_drewN | apply Kd.R_drew)); exact HO165.out⟩, ⟨by repeat (first | (with_reducible first | exact HB.out | apply below_alloc | apply pw_below_drewN | apply below_drew1) | exact HB.out)⟩⟩
            · rw [if_neg c41] at H
              have c41b0 : (t166 == 0) = false := beq_eq_false_iff_ne.mpr c41
              have c41b1 : (t166 != 0) = true := bne_iff_ne.mpr c41
              (first | rw [c41b0] | (simp only [i64_w, i32_w]; rw [c41b0]) | skip)
              have H' := Aside0.mk H
              clear H
              obtain ⟨Ao53, co53, eo53⟩ := Kd.R_slice HO165.out
              subst eo53
              go_wp2_with (first | ((with_reducible refine gate_callee (f := 13) rfl ?_); refine goesL_ (some 56) rfl rfl Try.func13 (by kernel_rfl) rfl #[.slice Ao53 t162.length co53] rfl (by (try simp only [List.map_toArray, List.map_cons, List.map_nil]); first | done | rfl | (simp only [List.length_drop, List.length_take]; rfl)) ?_; (with_reducible refine (ranges_Check.calls kj5 _ _ t162 t166 _ ?side1 ?side2 A40.out).mono ?_); (case side1 => repeat (first | exact (Kd.R_reads' HO165.out).2.2 | (with_reducible refine Kd.C_alloc ?_ _) | (with_reducible refine Kd.C_drewN ?_ _) | (with_reducible refine Kd.C_drew ?_))); (case side2 => exact (Kd.R_reads' HO165.out).2.1); rintro e w54 ⟨rfl, hb⟩; refine ⟨_, rfl, ?_⟩; have n0_ := Aside0.mk (Kd.R_below (by (with_reducible repeat (first | apply Kd.R_alloc | apply Kd.R_drewN | apply Kd.R_drew)); exact HO165.out) hb); have n1_ := Aside0.mk (below_step (by repeat (first | (with_reducible first | exact HB.out | apply below_alloc | apply pw_below_drewN | apply below_drew1) | exact HB.out)) hb); clear HO165; clear HB; have HO165 := n0_; have HB := n1_; clear n0_ n1_; (try clear hb); (try clear hb2); (try clear hk); (try clear hi)))
              go_meet
              case rel => exact ⟨_, (true), (by first | rfl | (simp; done) | (simp [*]; done)), H', ⟨by have := HJ5.out; first | omega | exact Nat.le_refl _⟩, ⟨by (with_reducible repeat (first | apply Kd.R_alloc | apply Kd.R_drewN | apply Kd.R_drew)); exact HO165.out⟩, ⟨by repeat (first | (with_reducible first | exact HB.out | apply below_alloc | apply pw_below_drewN | apply below_drew1) | exact HB.out)⟩⟩
          case rest =>
            clear HC38
            try clear c1
            try clear c2
            try clear p2
            try clear c3
            try clear c4
            try clear c5
            try clear c8
            try clear c9
            try clear c9b0
            try clear c9b1
            try clear c12
            try clear c12b0
            try clear c12b1
            try clear c13
            try clear c13b0
            try clear c13b1
            try clear c15
            try clear c20
            try clear c37
            try clear c37b0
            try clear c37b1
            try clear c41
            try clear c41b0
            try clear c41b1
            try clear c44
            try clear p2
            obtain ⟨kq, x71_37, rfl, HA, HJ37, HO_8, HB⟩ := hcut
            cases kq with
            | zero => exact absurd HA.out (by simp [dragomanlaw06_RangesBack.j1])
            | succ kj37 =>
              have H := HA.out
              clear HA
              simp only [dragomanlaw06_RangesBack.j1] at H
              by_cases c55 : x71_37 = true
              · subst c55
                have H1 : (some false) = some r := by rw [if_pos rfl] at H; exact H
                clear H
                have H := H1
                clear H1
                obtain rfl := Option.some.inj H
                go_wp2
                go_ret
                exact ⟨by first | rfl | (simp [errW_none, errW_some] <;> rfl) | (simp [*, errW_none, errW_some] <;> rfl), by repeat (first | (with_reducible first | exact HB.out | apply below_alloc | apply pw_below_drewN | apply below_drew1) | exact HB.out)⟩
              · replace c55 := Bool.eq_false_iff.mpr c55
                subst c55
                have H1 : (dragomanlaw06_RangesBack.l0 kj37 l0 t162 0) = some r := by rw [if_neg (show ¬ (false = true) by decide)] at H; exact H
                clear H
                have H := H1
                clear H1
                have H' := Aside0.mk H
                clear H
                go_wp2
                go_loopg [10] kj37 (fun kq v10 w' => ∃ (x10_3 : Int), v10 = .int .i64 x10_3 ∧ Aside0 (dragomanlaw06_RangesBack.l0 kq l0 t162 x10_3 = some r) ∧ Aside0 (kq ≤ kj37) ∧ Aside0 (Kd.R k44 44 w' w.heap.size (fun _ => True) v164 t162) ∧ Aside0 (Below w.heap.size w w'))
                case atStart => exact ⟨(0), (by first | rfl | (simp; done) | (simp [*]; done)), H', ⟨Nat.le_refl _⟩, ⟨by (with_reducible repeat (first | apply Kd.R_alloc | apply Kd.R_drewN | apply Kd.R_drew)); exact HO_8.out⟩, ⟨by repeat (first | (with_reducible first | exact HB.out | apply below_alloc | apply pw_below_drewN | apply below_drew1) | exact HB.out)⟩⟩
                case round =>
                  clear H'
                  try clear c1
                  try clear c2
                  try clear p2
                  try clear c3
                  try clear c4
                  try clear c5
                  try clear c8
                  try clear c9
                  try clear c9b0
                  try clear c9b1
                  try clear c12
                  try clear c12b0
                  try clear c12b1
                  try clear c13
                  try clear c13b0
                  try clear c13b1
                  try clear c15
                  try clear c20
                  try clear c37
                  try clear c37b0
                  try clear c37b1
                  try clear c41
                  try clear c41b0
                  try clear c41b1
                  try clear c44
                  try clear c55
                  try clear p2
                  obtain ⟨x10_3, rfl, HA, HK3, HO_8, HB⟩ := hrel
                  cases gk with
                  | zero => exact absurd HA.out (by simp [dragomanlaw06_RangesBack.l0])
                  | succ k3 =>
                    have H := HA.out
                    clear HA
                    simp only [dragomanlaw06_RangesBack.l0] at H
                    have HC56 := Aside0.mk H
                    clear H
                    go_upto_region 14 with (fail)
                    go_cut [79] (fun v79 wc => ∃ (kq : Nat) (x79_55 : Bool), v79 = .bool x79_55 ∧ Aside0 (dragomanlaw06_RangesBack.j3 kq l0 t162 x10_3 x79_55 = some r) ∧ Aside0 (kq ≤ k3) ∧ Aside0 (Kd.R k44 44 wc w.heap.size (fun _ => True) v164 t162) ∧ Aside0 (Below w.heap.size w wc))
                    case first =>
                      have H := HC56.out
                      clear HC56
                      by_cases c57 : x10_3 < (l0.length : Int)
                      · rw [if_pos c57] at H
                        have c57b0 : decide (x10_3 < (l0.length : Int)) = true := decide_eq_true c57
                        clear c57
                        (first | rw [c57b0] | (simp only [i64_w, i32_w]; rw [c57b0]) | skip)
                        have H' := Aside0.mk H
                        clear H
                        go_wp2
                        go_meet
                        case rel => exact ⟨_, (decide (x10_3 < 300)), (by first | rfl | (simp; done) | (simp [*]; done)), H', ⟨by have := HJ5.out; have := HJ37.out; have := HK3.out; first | omega | exact Nat.le_refl _⟩, ⟨by (with_reducible repeat (first | apply Kd.R_alloc | apply Kd.R_drewN | apply Kd.R_drew)); exact HO_8.out⟩, ⟨by repeat (first | (with_reducible first | exact HB.out | apply below_alloc | apply pw_below_drewN | apply below_drew1) | exact HB.out)⟩⟩
                      · rw [if_neg c57] at H
                        have c57b0 : decide (x10_3 < (l0.length : Int)) = false := decide_eq_false c57
                        clear c57
                        (first | rw [c57b0] | (simp only [i64_w, i32_w]; rw [c57b0]) | skip)
                        have H' := Aside0.mk H
                        clear H
                        go_wp2
                        go_meet
                        case rel => exact ⟨_, (false), (by first | rfl | (simp; done) | (simp [*]; done)), H', ⟨by have := HJ5.out; have := HJ37.out; have := HK3.out; first | omega | exact Nat.le_refl _⟩, ⟨by (with_reducible repeat (first | apply Kd.R_alloc | apply Kd.R_drewN | apply Kd.R_drew)); exact HO_8.out⟩, ⟨by repeat (first | (with_reducible first | exact HB.out | apply below_alloc | apply pw_below_drewN | apply below_drew1) | exact HB.out)⟩⟩
                    case rest =>
                      clear HC56
                      try clear c1
                      try clear c2
                      try clear p2
                      try clear c3
                      try clear c4
                      try clear c5
                      try clear c8
                      try clear c9
                      try clear c9b0
                      try clear c9b1
                      try clear c12
                      try clear c12b0
                      try clear c12b1
                      try clear c13
                      try clear c13b0
                      try clear c13b1
                      try clear c15
                      try clear c20
                      try clear c37
                      try clear c37b0
                      try clear c37b1
                      try clear c41
                      try clear c41b0
                      try clear c41b1
                      try clear c44
                      try clear c55
                      try clear c57
                      try clear c57b0
                      try clear p2
                      obtain ⟨kq, x79_55, rfl, HA, HJ55, HO_8, HB⟩ := hcut
                      cases kq with
                      | zero => exact absurd HA.out (by simp [dragomanlaw06_RangesBack.j3])
                      | succ kj55 =>
                        have H := HA.out
                        clear HA
                        simp only [dragomanlaw06_RangesBack.j3] at H
                        by_cases c58 : x79_55 = true
                        · subst c58
                          have H1 : (if 0 ≤ x10_3 then (if x10_3 < (l0.length : Int) then ((ranges_Scalar.f kj55 t162 ((rd_T41 l0 x10_3).f0)).bind fun bt172 => ((ranges_Code.f kj55 t162 ((rd_T41 l0 x10_3).f1)).bind fun bt175 => ((ranges_Scalar.f kj55 t162 bt175.1).bind fun bt177 => (if bt172.1 = ((rd_T41 l0 x10_3).f1) then (if bt172.2 = true then (if bt175.2 = true then (if bt175.1 > ((rd_T41 l0 x10_3).f0) then (some false) else (if bt177.1 = bt172.1 then (if bt177.2 = true then (dragomanlaw06_RangesBack.l0 kj55 l0 t162 (wrap64 (x10_3 + 1))) else (some false)) else (some false))) else (some false)) else (some false)) else (some false))))) else (none)) else (none)) = some r := by rw [if_pos rfl] at H; exact H
                          clear H
                          have H := H1
                          clear H1
                          by_cases c59 : 0 ≤ x10_3
                          · rw [if_pos c59] at H
                            have c59b0 : decide (0 ≤ x10_3) = true := decide_eq_true c59
                            clear c59
                            by_cases c60 : x10_3 < (l0.length : Int)
                            · rw [if_pos c60] at H
                              have c60b0 : decide (x10_3 < (l0.length : Int)) = true := decide_eq_true c60
                              clear c60
                              replace H := Option.bind_eq_some_iff.mp H
                              obtain ⟨⟨t172, t173⟩, A610, H⟩ := H
                              replace H : ((ranges_Code.f kj55 t162 ((rd_T41 l0 x10_3).f1)).bind fun bt175 => ((ranges_Scalar.f kj55 t162 bt175.1).bind fun bt177 => (if t172 = ((rd_T41 l0 x10_3).f1) then (if t173 = true then (if bt175.2 = true then (if bt175.1 > ((rd_T41 l0 x10_3).f0) then (some false) else (if bt177.1 = t172 then (if bt177.2 = true then (dragomanlaw06_RangesBack.l0 kj55 l0 t162 (wrap64 (x10_3 + 1))) else (some false)) else (some false))) else (some false)) else (some false)) else (some false)))) = some r := H
                              have A61 := Aside0.mk A610
                              clear A610
                              replace H := Option.bind_eq_some_iff.mp H
                              obtain ⟨⟨t175, t176⟩, A620, H⟩ := H
                              replace H : ((ranges_Scalar.f kj55 t162 t175).bind fun bt177 => (if t172 = ((rd_T41 l0 x10_3).f1) then (if t173 = true then (if t176 = true then (if t175 > ((rd_T41 l0 x10_3).f0) then (some false) else (if bt177.1 = t172 then (if bt177.2 = true then (dragomanlaw06_RangesBack.l0 kj55 l0 t162 (wrap64 (x10_3 + 1))) else (some false)) else (some false))) else (some false)) else (some false)) else (some false))) = some r := H
                              have A62 := Aside0.mk A620
                              clear A620
                              replace H := Option.bind_eq_some_iff.mp H
                              obtain ⟨⟨t177, t178⟩, A630, H⟩ := H
                              replace H : (if t172 = ((rd_T41 l0 x10_3).f1) then (if t173 = true then (if t176 = true then (if t175 > ((rd_T41 l0 x10_3).f0) then (some false) else (if t177 = t172 then (if t178 = true then (dragomanlaw06_RangesBack.l0 kj55 l0 t162 (wrap64 (x10_3 + 1))) else (some false)) else (some false))) else (some false)) else (some false)) else (some false)) = some r := H
                              have A63 := Aside0.mk A630
                              clear A630
                              by_cases c64 : t172 = ((rd_T41 l0 x10_3).f1)
                              · rw [if_pos c64] at H
                                have c64b0 : (t172 == ((rd_T41 l0 x10_3).f1)) = true := beq_iff_eq.mpr c64
                                have c64b1 : (t172 != ((rd_T41 l0 x10_3).f1)) = false := bne_eq_false_iff_eq.mpr c64
                                clear c64
                                by_cases c65 : t173 = true
                                · subst c65
                                  have H1 : (if t176 = true then (if t175 > ((rd_T41 l0 x10_3).f0) then (some false) else (if t177 = t172 then (if t178 = true then (dragomanlaw06_RangesBack.l0 kj55 l0 t162 (wrap64 (x10_3 + 1))) else (some false)) else (some false))) else (some false)) = some r := by rw [if_pos rfl] at H; exact H
                                  clear H
                                  have H := H1
                                  clear H1
                                  by_cases c66 : t176 = true
                                  · subst c66
                                    have H1 : (if t175 > ((rd_T41 l0 x10_3).f0) then (some false) else (if t177 = t172 then (if t178 = true then (dragomanlaw06_RangesBack.l0 kj55 l0 t162 (wrap64 (x10_3 + 1))) else (some false)) else (some false))) = some r := by rw [if_pos rfl] at H; exact H
                                    clear H
                                    have H := H1
                                    clear H1
                                    by_cases c67 : t175 > ((rd_T41 l0 x10_3).f0)
                                    · rw [if_pos c67] at H
                                      have c67b0 : decide (((rd_T41 l0 x10_3).f0) < t175) = true := decide_eq_true c67
                                      clear c67
                                      obtain rfl := Option.some.inj H
                                      have p171 : 0 ≤ (x10_3 : Int) := of_decide_eq_true (by first | (with_reducible assumption) | assumption)
                                      have q171 : x10_3 < (l0.length : Int) := of_decide_eq_true (by first | (with_reducible assumption) | assumption)
                                      obtain ⟨ad171, e171, hx171_0, hx171_1⟩ := at_T41 HR0.out x10_3 p171 q171
                                      cases e171
                                      replace hx171_0 := (HB.out.cell (World.block_lt_of_cell? w _ hx171_0)).trans hx171_0
                                      replace hx171_1 := (HB.out.cell (World.block_lt_of_cell? w _ hx171_1)).trans hx171_1
                                      replace p171 := eq_true p171
                                      replace q171 := eq_true q171
                                      obtain ⟨Ao68, co68, eo68⟩ := Kd.R_slice HO_8.out
                                      subst eo68
                                      go_wp2_with (first | ((with_reducible refine gate_callee (f := 16) rfl ?_); refine goesL_ (some 89) rfl rfl Try.func16 (by kernel_rfl) rfl #[.slice Ao68 t162.length co68, .int .i64 ((rd_T41 l0 x10_3).f0)] rfl (by (try simp only [List.map_toArray, List.map_cons, List.map_nil]); first | done | rfl | (simp only [List.length_drop, List.length_take]; rfl)) ?_; (with_reducible refine (ranges_Scalar.calls kj55 _ _ t162 ((rd_T41 l0 x10_3).f0) t172 true _ ?side1 ?side2 A61.out).mono ?_); (case side1 => repeat (first | exact (Kd.R_reads' HO_8.out).2.2 | (with_reducible refine Kd.C_alloc ?_ _) | (with_reducible refine Kd.C_drewN ?_ _) | (with_reducible refine Kd.C_drew ?_))); (case side2 => exact (Kd.R_reads' HO_8.out).2.1); rintro e w69 ⟨rfl, hb⟩; refine ⟨_, rfl, ?_⟩; have n0_ := Aside0.mk (Kd.R_below (by (with_reducible repeat (first | apply Kd.R_alloc | apply Kd.R_drewN | apply Kd.R_drew)); exact HO_8.out) hb); have n1_ := Aside0.mk (below_step (by repeat (first | (with_reducible first | exact HB.out | apply below_alloc | apply pw_below_drewN | apply below_drew1) | exact HB.out)) hb); clear HO_8; clear HB; have HO_8 := n0_; have HB := n1_; clear n0_ n1_; (try clear hb); (try clear hb2); (try clear hk); (try clear hi); have p174 : 0 ≤ (x10_3 : Int) := of_decide_eq_true (by first | (with_reducible assumption) | assumption); have q174 : x10_3 < (l0.length : Int) := of_decide_eq_true (by first | (with_reducible assumption) | assumption); obtain ⟨ad174, e174, hx174_0, hx174_1⟩ := at_T41 HR0.out x10_3 p174 q174; obtain rfl : ad171 = ad174 := (by injection e174); replace hx174_0 := (HB.out.cell (World.block_lt_of_cell? w _ hx174_0)).trans hx174_0; replace hx174_1 := (HB.out.cell (World.block_lt_of_cell? w _ hx174_1)).trans hx174_1; replace p174 := eq_true p174; replace q174 := eq_true q174) | ((with_reducible refine gate_callee (f := 18) rfl ?_); refine goesL_ (some 99) rfl rfl Try.func18 (by kernel_rfl) rfl #[.slice Ao68 t162.length co68, .int .i32 ((rd_T41 l0 x10_3).f1)] rfl (by (try simp only [List.map_toArray, List.map_cons, List.map_nil]); first | done | rfl | (simp only [List.length_drop, List.length_take]; rfl)) ?_; (with_reducible refine (ranges_Code.calls kj55 _ _ t162 ((rd_T41 l0 x10_3).f1) t175 true _ ?side1 ?side2 A62.out).mono ?_); (case side1 => repeat (first | exact (Kd.R_reads' HO_8.out).2.2 | (with_reducible refine Kd.C_alloc ?_ _) | (with_reducible refine Kd.C_drewN ?_ _) | (with_reducible refine Kd.C_drew ?_))); (case side2 => exact (Kd.R_reads' HO_8.out).2.1); rintro e w70 ⟨rfl, hb⟩; refine ⟨_, rfl, ?_⟩; have n0_ := Aside0.mk (Kd.R_below (by (with_reducible repeat (first | apply Kd.R_alloc | apply Kd.R_drewN | apply Kd.R_drew)); exact HO_8.out) hb); have n1_ := Aside0.mk (below_step (by repeat (first | (with_reducible first | exact HB.out | apply below_alloc | apply pw_below_drewN | apply below_drew1) | exact HB.out)) hb); clear HO_8; clear HB; have HO_8 := n0_; have HB := n1_; clear n0_ n1_; (try clear hb); (try clear hb2); (try clear hk); (try clear hi)) | ((with_reducible refine gate_callee (f := 16) rfl ?_); refine goesL_ (some 105) rfl rfl Try.func16 (by kernel_rfl) rfl #[.slice Ao68 t162.length co68, .int .i64 t175] rfl (by (try simp only [List.map_toArray, List.map_cons, List.map_nil]); first | done | rfl | (simp only [List.length_drop, List.length_take]; rfl)) ?_; (with_reducible refine (ranges_Scalar.calls kj55 _ _ t162 t175 t177 t178 _ ?side1 ?side2 A63.out).mono ?_); (case side1 => repeat (first | exact (Kd.R_reads' HO_8.out).2.2 | (with_reducible refine Kd.C_alloc ?_ _) | (with_reducible refine Kd.C_drewN ?_ _) | (with_reducible refine Kd.C_drew ?_))); (case side2 => exact (Kd.R_reads' HO_8.out).2.1); rintro e w71 ⟨rfl, hb⟩; refine ⟨_, rfl, ?_⟩; have n0_ := Aside0.mk (Kd.R_below (by (with_reducible repeat (first | apply Kd.R_alloc | apply Kd.R_drewN | apply Kd.R_drew)); exact HO_8.out) hb); have n1_ := Aside0.mk (below_step (by repeat (first | (with_reducible first | exact HB.out | apply below_alloc | apply pw_below_drewN | apply below_drew1) | exact HB.out)) hb); clear HO_8; clear HB; have HO_8 := n0_; have HB := n1_; clear n0_ n1_; (try clear hb); (try clear hb2); (try clear hk); (try clear hi); have p179 : 0 ≤ (x10_3 : Int) := of_decide_eq_true (by first | (with_reducible assumption) | assumption); have q179 : x10_3 < (l0.length : Int) := of_decide_eq_true (by first | (with_reducible assumption) | assumption); obtain ⟨ad179, e179, hx179_0, hx179_1⟩ := at_T41 HR0.out x10_3 p179 q179; obtain rfl : ad171 = ad179 := (by injection e179); replace hx179_0 := (HB.out.cell (World.block_lt_of_cell? w _ hx179_0)).trans hx179_0; replace hx179_1 := (HB.out.cell (World.block_lt_of_cell? w _ hx179_1)).trans hx179_1; replace p179 := eq_true p179; replace q179 := eq_true q179; have p180 : 0 ≤ (x10_3 : Int) := of_decide_eq_true (by first | (with_reducible assumption) | assumption); have q180 : x10_3 < (l0.length : Int) := of_decide_eq_true (by first | (with_reducible assumption) | assumption); obtain ⟨ad180, e180, hx180_0, hx180_1⟩ := at_T41 HR0.out x10_3 p180 q180; obtain rfl : ad171 = ad180 := (by injection e180); replace hx180_0 := (HB.out.cell (World.block_lt_of_cell? w _ hx180_0)).trans hx180_0; replace hx180_1 := (HB.out.cell (World.block_lt_of_cell? w _ hx180_1)).trans hx180_1; replace p180 := eq_true p180; replace q180 := eq_true q180))
                                      go_ret
                                      exact ⟨by first | rfl | (simp [errW_none, errW_some] <;> rfl) | (simp [*, errW_none, errW_some] <;> rfl), by repeat (first | (with_reducible first | exact HB.out | apply below_alloc | apply pw_below_drewN | apply below_drew1) | exact HB.out)⟩
                                    · rw [if_neg c67] at H
                                      have c67b0 : decide (((rd_T41 l0 x10_3).f0) < t175) = false := decide_eq_false c67
                                      clear c67
                                      by_cases c72 : t177 = t172
                                      · rw [if_pos c72] at H
                                        have c72b0 : (t177 == t172) = true := beq_iff_eq.mpr c72
                                        have c72b1 : (t177 != t172) = false := bne_eq_false_iff_eq.mpr c72
                                        clear c72
                                        by_cases c73 : t178 = true
                                        · subst c73
                                          have H1 : (dragomanlaw06_RangesBack.l0 kj55 l0 t162 (wrap64 (x10_3 + 1))) = some r := by rw [if_pos rfl] at H; exact H
                                          clear H
                                          have H := H1
                                          clear H1
                                          have H' := Aside0.mk H
                                          clear H
                                          have p171 : 0 ≤ (x10_3 : Int) := of_decide_eq_true (by first | (with_reducible assumption) | assumption)
                                          have q171 : x10_3 < (l0.length : Int) := of_decide_eq_true (by first | (with_reducible assumption) | assumption)
                                          obtain ⟨ad171, e171, hx171_0, hx171_1⟩ := at_T41 HR0.out x10_3 p171 q171
                                          cases e171
                                          replace hx171_0 := (HB.out.cell (World.block_lt_of_cell? w _ hx171_0)).trans hx171_0
                                          replace hx171_1 := (HB.out.cell (World.block_lt_of_cell? w _ hx171_1)).trans hx171_1
                                          replace p171 := eq_true p171
                                          replace q171 := eq_true q171
                                          obtain ⟨Ao74, co74, eo74⟩ := Kd.R_slice HO_8.out
                                          subst eo74
                                          go_wp2_with (first | ((with_reducible refine gate_callee (f := 16) rfl ?_); refine goesL_ (some 89) rfl rfl Try.func16 (by kernel_rfl) rfl #[.slice Ao74 t162.length co74, .int .i64 ((rd_T41 l0 x10_3).f0)] rfl (by (try simp only [List.map_toArray, List.map_cons, List.map_nil]); first | done | rfl | (simp only [List.length_drop, List.length_take]; rfl)) ?_; (with_reducible refine (ranges_Scalar.calls kj55 _ _ t162 ((rd_T41 l0 x10_3).f0) t172 true _ ?side1 ?side2 A61.out).mono ?_); (case side1 => repeat (first | exact (Kd.R_reads' HO_8.out).2.2 | (with_reducible refine Kd.C_alloc ?_ _) | (with_reducible refine Kd.C_drewN ?_ _) | (with_reducible refine Kd.C_drew ?_))); (case side2 => exact (Kd.R_reads' HO_8.out).2.1); rintro e w75 ⟨rfl, hb⟩; refine ⟨_, rfl, ?_⟩; have n0_ := Aside0.mk (Kd.R_below (by (with_reducible repeat (first | apply Kd.R_alloc | apply Kd.R_drewN | apply Kd.R_drew)); exact HO_8.out) hb); have n1_ := Aside0.mk (below_step (by repeat (first | (with_reducible first | exact HB.out | apply below_alloc | apply pw_below_drewN | apply below_drew1) | exact HB.out)) hb); clear HO_8; clear HB; have HO_8 := n0_; have HB := n1_; clear n0_ n1_; (try clear hb); (try clear hb2); (try clear hk); (try clear hi); have p174 : 0 ≤ (x10_3 : Int) := of_decide_eq_true (by first | (with_reducible assumption) | assumption); have q174 : x10_3 < (l0.length : Int) := of_decide_eq_true (by first | (with_reducible assumption) | assumption); obtain ⟨ad174, e174, hx174_0, hx174_1⟩ := at_T41 HR0.out x10_3 p174 q174; obtain rfl : ad171 = ad174 := (by injection e174); replace hx174_0 := (HB.out.cell (World.block_lt_of_cell? w _ hx174_0)).trans hx174_0; replace hx174_1 := (HB.out.cell (World.block_lt_of_cell? w _ hx174_1)).trans hx174_1; replace p174 := eq_true p174; replace q174 := eq_true q174) | ((with_reducible refine gate_callee (f := 18) rfl ?_); refine goesL_ (some 99) rfl rfl Try.func18 (by kernel_rfl) rfl #[.slice Ao74 t162.length co74, .int .i32 ((rd_T41 l0 x10_3).f1)] rfl (by (try simp only [List.map_toArray, List.map_cons, List.map_nil]); first | done | rfl | (simp only [List.length_drop, List.length_take]; rfl)) ?_; (with_reducible refine (ranges_Code.calls kj55 _ _ t162 ((rd_T41 l0 x10_3).f1) t175 true _ ?side1 ?side2 A62.out).mono ?_); (case side1 => repeat (first | exact (Kd.R_reads' HO_8.out).2.2 | (with_reducible refine Kd.C_alloc ?_ _) | (with_reducible refine Kd.C_drewN ?_ _) | (with_reducible refine Kd.C_drew ?_))); (case side2 => exact (Kd.R_reads' HO_8.out).2.1); rintro e w76 ⟨rfl, hb⟩; refine ⟨_, rfl, ?_⟩; have n0_ := Aside0.mk (Kd.R_below (by (with_reducible repeat (first | apply Kd.R_alloc | apply Kd.R_drewN | apply Kd.R_drew)); exact HO_8.out) hb); have n1_ := Aside0.mk (below_step (by repeat (first | (with_reducible first | exact HB.out | apply below_alloc | apply pw_below_drewN | apply below_drew1) | exact HB.out)) hb); clear HO_8; clear HB; have HO_8 := n0_; have HB := n1_; clear n0_ n1_; (try clear hb); (try clear hb2); (try clear hk); (try clear hi)) | ((with_reducible refine gate_callee (f := 16) rfl ?_); refine goesL_ (some 105) rfl rfl Try.func16 (by kernel_rfl) rfl #[.slice Ao74 t162.length co74, .int .i64 t175] rfl (by (try simp only [List.map_toArray, List.map_cons, List.map_nil]); first | done | rfl | (simp only [List.length_drop, List.length_take]; rfl)) ?_; (with_reducible refine (ranges_Scalar.calls kj55 _ _ t162 t175 t177 true _ ?side1 ?side2 A63.out).mono ?_); (case side1 => repeat (first | exact (Kd.R_reads' HO_8.out).2.2 | (with_reducible refine Kd.C_alloc ?_ _) | (with_reducible refine Kd.C_drewN ?_ _) | (with_reducible refine Kd.C_drew ?_))); (case side2 => exact (Kd.R_reads' HO_8.out).2.1); rintro e w77 ⟨rfl, hb⟩; refine ⟨_, rfl, ?_⟩; have n0_ := Aside0.mk (Kd.R_below (by (with_reducible repeat (first | apply Kd.R_alloc | apply Kd.R_drewN | apply Kd.R_drew)); exact HO_8.out) hb); have n1_ := Aside0.mk (below_step (by repeat (first | (with_reducible first | exact HB.out | apply below_alloc | apply pw_below_drewN | apply below_drew1) | exact HB.out)) hb); clear HO_8; clear HB; have HO_8 := n0_; have HB := n1_; clear n0_ n1_; (try clear hb); (try clear hb2); (try clear hk); (try clear hi); have p179 : 0 ≤ (x10_3 : Int) := of_decide_eq_true (by first | (with_reducible assumption) | assumption); have q179 : x10_3 < (l0.length : Int) := of_decide_eq_true (by first | (with_reducible assumption) | assumption); obtain ⟨ad179, e179, hx179_0, hx179_1⟩ := at_T41 HR0.out x10_3 p179 q179; obtain rfl : ad171 = ad179 := (by injection e179); replace hx179_0 := (HB.out.cell (World.block_lt_of_cell? w _ hx179_0)).trans hx179_0; replace hx179_1 := (HB.out.cell (World.block_lt_of_cell? w _ hx179_1)).trans hx179_1; replace p179 := eq_true p179; replace q179 := eq_true q179; have p180 : 0 ≤ (x10_3 : Int) := of_decide_eq_true (by first | (with_reducible assumption) | assumption); have q180 : x10_3 < (l0.length : Int) := of_decide_eq_true (by first | (with_reducible assumption) | assumption); obtain ⟨ad180, e180, hx180_0, hx180_1⟩ := at_T41 HR0.out x10_3 p180 q180; obtain rfl : ad171 = ad180 := (by injection e180); replace hx180_0 := (HB.out.cell (World.block_lt_of_cell? w _ hx180_0)).trans hx180_0; replace hx180_1 := (HB.out.cell (World.block_lt_of_cell? w _ hx180_1)).trans hx180_1; replace p180 := eq_true p180; replace q180 := eq_true q180))
                                          go_roundg kj55
                                          case measure => have := HJ5.out; have := HJ37.out; have := HK3.out; have := HJ55.out; omega
                                          case rel => exact ⟨(wrap64 (x10_3 + 1)), (by first | rfl | (simp; done) | (simp [*]; done)), H', ⟨by have := HJ5.out; have := HJ37.out; have := HK3.out; have := HJ55.out; omega⟩, ⟨by (with_reducible repeat (first | apply Kd.R_alloc | apply Kd.R_drewN | apply Kd.R_drew)); exact HO_8.out⟩, ⟨by repeat (first | (with_reducible first | exact HB.out | apply below_alloc | apply pw_below_drewN | apply below_drew1) | exact HB.out)⟩⟩
                                        · replace c73 := Bool.eq_false_iff.mpr c73
                                          subst c73
                                          have H1 : (some false) = some r := by rw [if_neg (show ¬ (false = true) by decide)] at H; exact H
                                          clear H
                                          have H := H1
                                          clear H1
                                          obtain rfl := Option.some.inj H
                                          have p171 : 0 ≤ (x10_3 : Int) := of_decide_eq_true (by first | (with_reducible assumption) | assumption)
                                          have q171 : x10_3 < (l0.length : Int) := of_decide_eq_true (by first | (with_reducible assumption) | assumption)
                                          obtain ⟨ad171, e171, hx171_0, hx171_1⟩ := at_T41 HR0.out x10_3 p171 q171
                                          cases e171
                                          replace hx171_0 := (HB.out.cell (World.block_lt_of_cell? w _ hx171_0)).trans hx171_0
                                          replace hx171_1 := (HB.out.cell (World.block_lt_of_cell? w _ hx171_1)).trans hx171_1
                                          replace p171 := eq_true p171
                                          replace q171 := eq_true q171
                                          obtain ⟨Ao78, co78, eo78⟩ := Kd.R_slice HO_8.out
                                          subst eo78
                                          go_wp2_with (first | ((with_reducible refine gate_callee (f := 16) rfl ?_); refine goesL_ (some 89) rfl rfl Try.func16 (by kernel_rfl) rfl #[.slice Ao78 t162.length co78, .int .i64 ((rd_T41 l0 x10_3).f0)] rfl (by (try simp only [List.map_toArray, List.map_cons, List.map_nil]); first | done | rfl | (simp only [List.length_drop, List.length_take]; rfl)) ?_; (with_reducible refine (ranges_Scalar.calls kj55 _ _ t162 ((rd_T41 l0 x10_3).f0) t172 true _ ?side1 ?side2 A61.out).mono ?_); (case side1 => repeat (first | exact (Kd.R_reads' HO_8.out).2.2 | (with_reducible refine Kd.C_alloc ?_ _) | (with_reducible refine Kd.C_drewN ?_ _) | (with_reducible refine Kd.C_drew ?_))); (case side2 => exact (Kd.R_reads' HO_8.out).2.1); rintro e w79 ⟨rfl, hb⟩; refine ⟨_, rfl, ?_⟩; have n0_ := Aside0.mk (Kd.R_below (by (with_reducible repeat (first | apply Kd.R_alloc | apply Kd.R_drewN | apply Kd.R_drew)); exact HO_8.out) hb); have n1_ := Aside0.mk (below_step (by repeat (first | (with_reducible first | exact HB.out | apply below_alloc | apply pw_below_drewN | apply below_drew1) | exact HB.out)) hb); clear HO_8; clear HB; have HO_8 := n0_; have HB := n1_; clear n0_ n1_; (try clear hb); (try clear hb2); (try clear hk); (try clear hi); have p174 : 0 ≤ (x10_3 : Int) := of_decide_eq_true (by first | (with_reducible assumption) | assumption); have q174 : x10_3 < (l0.length : Int) := of_decide_eq_true (by first | (with_reducible assumption) | assumption); obtain ⟨ad174, e174, hx174_0, hx174_1⟩ := at_T41 HR0.out x10_3 p174 q174; obtain rfl : ad171 = ad174 := (by injection e174); replace hx174_0 := (HB.out.cell (World.block_lt_of_cell? w _ hx174_0)).trans hx174_0; replace hx174_1 := (HB.out.cell (World.block_lt_of_cell? w _ hx174_1)).trans hx174_1; replace p174 := eq_true p174; replace q174 := eq_true q174) | ((with_reducible refine gate_callee (f := 18) rfl ?_); refine goesL_ (some 99) rfl rfl Try.func18 (by kernel_rfl) rfl #[.slice Ao78 t162.length co78, .int .i32 ((rd_T41 l0 x10_3).f1)] rfl (by (try simp only [List.map_toArray, List.map_cons, List.map_nil]); first | done | rfl | (simp only [List.length_drop, List.length_take]; rfl)) ?_; (with_reducible refine (ranges_Code.calls kj55 _ _ t162 ((rd_T41 l0 x10_3).f1) t175 true _ ?side1 ?side2 A62.out).mono ?_); (case side1 => repeat (first | exact (Kd.R_reads' HO_8.out).2.2 | (with_reducible refine Kd.C_alloc ?_ _) | (with_reducible refine Kd.C_drewN ?_ _) | (with_reducible refine Kd.C_drew ?_))); (case side2 => exact (Kd.R_reads' HO_8.out).2.1); rintro e w80 ⟨rfl, hb⟩; refine ⟨_, rfl, ?_⟩; have n0_ := Aside0.mk (Kd.R_below (by (with_reducible repeat (first | apply Kd.R_alloc | apply Kd.R_drewN | apply Kd.R_drew)); exact HO_8.out) hb); have n1_ := Aside0.mk (below_step (by repeat (first | (with_reducible first | exact HB.out | apply below_alloc | apply pw_below_drewN | apply below_drew1) | exact HB.out)) hb); clear HO_8; clear HB; have HO_8 := n0_; have HB := n1_; clear n0_ n1_; (try clear hb); (try clear hb2); (try clear hk); (try clear hi)) | ((with_reducible refine gate_callee (f := 16) rfl ?_); refine goesL_ (some 105) rfl rfl Try.func16 (by kernel_rfl) rfl #[.slice Ao78 t162.length co78, .int .i64 t175] rfl (by (try simp only [List.map_toArray, List.map_cons, List.map_nil]); first | done | rfl | (simp only [List.length_drop, List.length_take]; rfl)) ?_; (with_reducible refine (ranges_Scalar.calls kj55 _ _ t162 t175 t177 false _ ?side1 ?side2 A63.out).mono ?_); (case side1 => repeat (first | exact (Kd.R_reads' HO_8.out).2.2 | (with_reducible refine Kd.C_alloc ?_ _) | (with_reducible refine Kd.C_drewN ?_ _) | (with_reducible refine Kd.C_drew ?_))); (case side2 => exact (Kd.R_reads' HO_8.out).2.1); rintro e w81 ⟨rfl, hb⟩; refine ⟨_, rfl, ?_⟩; have n0_ := Aside0.mk (Kd.R_below (by (with_reducible repeat (first | apply Kd.R_alloc | apply Kd.R_drewN | apply Kd.R_drew)); exact HO_8.out) hb); have n1_ := Aside0.mk (below_step (by repeat (first | (with_reducible first | exact HB.out | apply below_alloc | apply pw_below_drewN | apply below_drew1) | exact HB.out)) hb); clear HO_8; clear HB; have HO_8 := n0_; have HB := n1_; clear n0_ n1_; (try clear hb); (try clear hb2); (try clear hk); (try clear hi); have p179 : 0 ≤ (x10_3 : Int) := of_decide_eq_true (by first | (with_reducible assumption) | assumption); have q179 : x10_3 < (l0.length : Int) := of_decide_eq_true (by first | (with_reducible assumption) | assumption); obtain ⟨ad179, e179, hx179_0, hx179_1⟩ := at_T41 HR0.out x10_3 p179 q179; obtain rfl : ad171 = ad179 := (by injection e179); replace hx179_0 := (HB.out.cell (World.block_lt_of_cell? w _ hx179_0)).trans hx179_0; replace hx179_1 := (HB.out.cell (World.block_lt_of_cell? w _ hx179_1)).trans hx179_1; replace p179 := eq_true p179; replace q179 := eq_true q179; have p180 : 0 ≤ (x10_3 : Int) := of_decide_eq_true (by first | (with_reducible assumption) | assumption); have q180 : x10_3 < (l0.length : Int) := of_decide_eq_true (by first | (with_reducible assumption) | assumption); obtain ⟨ad180, e180, hx180_0, hx180_1⟩ := at_T41 HR0.out x10_3 p180 q180; obtain rfl : ad171 = ad180 := (by injection e180); replace hx180_0 := (HB.out.cell (World.block_lt_of_cell? w _ hx180_0)).trans hx180_0; replace hx180_1 := (HB.out.cell (World.block_lt_of_cell? w _ hx180_1)).trans hx180_1; replace p180 := eq_true p180; replace q180 := eq_true q180))
                                          go_ret
                                          exact ⟨by first | rfl | (simp [errW_none, errW_some] <;> rfl) | (simp [*, errW_none, errW_some] <;> rfl), by repeat (first | (with_reducible first | exact HB.out | apply below_alloc | apply pw_below_drewN | apply below_drew1) | exact HB.out)⟩
                                      · rw [if_neg c72] at H
                                        have c72b0 : (t177 == t172) = false := beq_eq_false_iff_ne.mpr c72
                                        have c72b1 : (t177 != t172) = true := bne_iff_ne.mpr c72
                                        obtain rfl := Option.some.inj H
                                        have p171 : 0 ≤ (x10_3 : Int) := of_decide_eq_true (by first | (with_reducible assumption) | assumption)
                                        have q171 : x10_3 < (l0.length : Int) := of_decide_eq_true (by first | (with_reducible assumption) | assumption)
                                        obtain ⟨ad171, e171, hx171_0, hx171_1⟩ := at_T41 HR0.out x10_3 p171 q171
                                        cases e171
                                        replace hx171_0 := (HB.out.cell (World.block_lt_of_cell? w _ hx171_0)).trans hx171_0
                                        replace hx171_1 := (HB.out.cell (World.block_lt_of_cell? w _ hx171_1)).trans hx171_1
                                        replace p171 := eq_true p171
                                        replace q171 := eq_true q171
                                        obtain ⟨Ao82, co82, eo82⟩ := Kd.R_slice HO_8.out
                                        subst eo82
                                        go_wp2_with (first | ((with_reducible refine gate_callee (f := 16) rfl ?_); refine goesL_ (some 89) rfl rfl Try.func16 (by kernel_rfl) rfl #[.slice Ao82 t162.length co82, .int .i64 ((rd_T41 l0 x10_3).f0)] rfl (by (try simp only [List.map_toArray, List.map_cons, List.map_nil]); first | done | rfl | (simp only [List.length_drop, List.length_take]; rfl)) ?_; (with_reducible refine (ranges_Scalar.calls kj55 _ _ t162 ((rd_T41 l0 x10_3).f0) t172 true _ ?side1 ?side2 A61.out).mono ?_); (case side1 => repeat (first | exact (Kd.R_reads' HO_8.out).2.2 | (with_reducible refine Kd.C_alloc ?_ _) | (with_reducible refine Kd.C_drewN ?_ _) | (with_reducible refine Kd.C_drew ?_))); (case side2 => exact (Kd.R_reads' HO_8.out).2.1); rintro e w83 ⟨rfl, hb⟩; refine ⟨_, rfl, ?_⟩; have n0_ := Aside0.mk (Kd.R_below (by (with_reducible repeat (first | apply Kd.R_alloc | apply Kd.R_drewN | apply Kd.R_drew)); exact HO_8.out) hb); have n1_ := Aside0.mk (below_step (by repeat (first | (with_reducible first | exact HB.out | apply below_alloc | apply pw_below_drewN | apply below_drew1) | exact HB.out)) hb); clear HO_8; clear HB; have HO_8 := n0_; have HB := n1_; clear n0_ n1_; (try clear hb); (try clear hb2); (try clear hk); (try clear hi); have p174 : 0 ≤ (x10_3 : Int) := of_decide_eq_true (by first | (with_reducible assumption) | assumption); have q174 : x10_3 < (l0.length : Int) := of_decide_eq_true (by first | (with_reducible assumption) | assumption); obtain ⟨ad174, e174, hx174_0, hx174_1⟩ := at_T41 HR0.out x10_3 p174 q174; obtain rfl : ad171 = ad174 := (by injection e174); replace hx174_0 := (HB.out.cell (World.block_lt_of_cell? w _ hx174_0)).trans hx174_0; replace hx174_1 := (HB.out.cell (World.block_lt_of_cell? w _ hx174_1)).trans hx174_1; replace p174 := eq_true p174; replace q174 := eq_true q174) | ((with_reducible refine gate_callee (f := 18) rfl ?_); refine goesL_ (some 99) rfl rfl Try.func18 (by kernel_rfl) rfl #[.slice Ao82 t162.length co82, .int .i32 ((rd_T41 l0 x10_3).f1)] rfl (by (try simp only [List.map_toArray, List.map_cons, List.map_nil]); first | done | rfl | (simp only [List.length_drop, List.length_take]; rfl)) ?_; (with_reducible refine (ranges_Code.calls kj55 _ _ t162 ((rd_T41 l0 x10_3).f1) t175 true _ ?side1 ?side2 A62.out).mono ?_); (case side1 => repeat (first | exact (Kd.R_reads' HO_8.out).2.2 | (with_reducible refine Kd.C_alloc ?_ _) | (with_reducible refine Kd.C_drewN ?_ _) | (with_reducible refine Kd.C_drew ?_))); (case side2 => exact (Kd.R_reads' HO_8.out).2.1); rintro e w84 ⟨rfl, hb⟩; refine ⟨_, rfl, ?_⟩; have n0_ := Aside0.mk (Kd.R_below (by (with_reducible repeat (first | apply Kd.R_alloc | apply Kd.R_drewN | apply Kd.R_drew)); exact HO_8.out) hb); have n1_ := Aside0.mk (below_step (by repeat (first | (with_reducible first | exact HB.out | apply below_alloc | apply pw_below_drewN | apply below_drew1) | exact HB.out)) hb); clear HO_8; clear HB; have HO_8 := n0_; have HB := n1_; clear n0_ n1_; (try clear hb); (try clear hb2); (try clear hk); (try clear hi)) | ((with_reducible refine gate_callee (f := 16) rfl ?_); refine goesL_ (some 105) rfl rfl Try.func16 (by kernel_rfl) rfl #[.slice Ao82 t162.length co82, .int .i64 t175] rfl (by (try simp only [List.map_toArray, List.map_cons, List.map_nil]); first | done | rfl | (simp only [List.length_drop, List.length_take]; rfl)) ?_; (with_reducible refine (ranges_Scalar.calls kj55 _ _ t162 t175 t177 t178 _ ?side1 ?side2 A63.out).mono ?_); (case side1 => repeat (first | exact (Kd.R_reads' HO_8.out).2.2 | (with_reducible refine Kd.C_alloc ?_ _) | (with_reducible refine Kd.C_drewN ?_ _) | (with_reducible refine Kd.C_drew ?_))); (case side2 => exact (Kd.R_reads' HO_8.out).2.1); rintro e w85 ⟨rfl, hb⟩; refine ⟨_, rfl, ?_⟩; have n0_ := Aside0.mk (Kd.R_below (by (with_reducible repeat (first | apply Kd.R_alloc | apply Kd.R_drewN | apply Kd.R_drew)); exact HO_8.out) hb); have n1_ := Aside0.mk (below_step (by repeat (first | (with_reducible first | exact HB.out | apply below_alloc | apply pw_below_drewN | apply below_drew1) | exact HB.out)) hb); clear HO_8; clear HB; have HO_8 := n0_; have HB := n1_; clear n0_ n1_; (try clear hb); (try clear hb2); (try clear hk); (try clear hi); have p179 : 0 ≤ (x10_3 : Int) := of_decide_eq_true (by first | (with_reducible assumption) | assumption); have q179 : x10_3 < (l0.length : Int) := of_decide_eq_true (by first | (with_reducible assumption) | assumption); obtain ⟨ad179, e179, hx179_0, hx179_1⟩ := at_T41 HR0.out x10_3 p179 q179; obtain rfl : ad171 = ad179 := (by injection e179); replace hx179_0 := (HB.out.cell (World.block_lt_of_cell? w _ hx179_0)).trans hx179_0; replace hx179_1 := (HB.out.cell (World.block_lt_of_cell? w _ hx179_1)).trans hx179_1; replace p179 := eq_true p179; replace q179 := eq_true q179; have p180 : 0 ≤ (x10_3 : Int) := of_decide_eq_true (by first | (with_reducible assumption) | assumption); have q180 : x10_3 < (l0.length : Int) := of_decide_eq_true (by first | (with_reducible assumption) | assumption); obtain ⟨ad180, e180, hx180_0, hx180_1⟩ := at_T41 HR0.out x10_3 p180 q180; obtain rfl : ad171 = ad180 := (by injection e180); replace hx180_0 := (HB.out.cell (World.block_lt_of_cell? w _ hx180_0)).trans hx180_0; replace hx180_1 := (HB.out.cell (World.block_lt_of_cell? w _ hx180_1)).trans hx180_1; replace p180 := eq_true p180; replace q180 := eq_true q180))
                                        go_ret
                                        exact ⟨by first | rfl | (simp [errW_none, errW_some] <;> rfl) | (simp [*, errW_none, errW_some] <;> rfl), by repeat (first | (with_reducible first | exact HB.out | apply below_alloc | apply pw_below_drewN | apply below_drew1) | exact HB.out)⟩
                                  · replace c66 := Bool.eq_false_iff.mpr c66
                                    subst c66
                                    have H1 : (some false) = some r := by rw [if_neg (show ¬ (false = true) by decide)] at H; exact H
                                    clear H
                                    have H := H1
                                    clear H1
                                    obtain rfl := Option.some.inj H
                                    have p171 : 0 ≤ (x10_3 : Int) := of_decide_eq_true (by first | (with_reducible assumption) | assumption)
                                    have q171 : x10_3 < (l0.length : Int) := of_decide_eq_true (by first | (with_reducible assumption) | assumption)
                                    obtain ⟨ad171, e171, hx171_0, hx171_1⟩ := at_T41 HR0.out x10_3 p171 q171
                                    cases e171
                                    replace hx171_0 := (HB.out.cell (World.block_lt_of_cell? w _ hx171_0)).trans hx171_0
                                    replace hx171_1 := (HB.out.cell (World.block_lt_of_cell? w _ hx171_1)).trans hx171_1
                                    replace p171 := eq_true p171
                                    replace q171 := eq_true q171
                                    obtain ⟨Ao86, co86, eo86⟩ := Kd.R_slice HO_8.out
                                    subst eo86
                                    go_wp2_with (first | ((with_reducible refine gate_callee (f := 16) rfl ?_); refine goesL_ (some 89) rfl rfl Try.func16 (by kernel_rfl) rfl #[.slice Ao86 t162.length co86, .int .i64 ((rd_T41 l0 x10_3).f0)] rfl (by (try simp only [List.map_toArray, List.map_cons, List.map_nil]); first | done | rfl | (simp only [List.length_drop, List.length_take]; rfl)) ?_; (with_reducible refine (ranges_Scalar.calls kj55 _ _ t162 ((rd_T41 l0 x10_3).f0) t172 true _ ?side1 ?side2 A61.out).mono ?_); (case side1 => repeat (first | exact (Kd.R_reads' HO_8.out).2.2 | (with_reducible refine Kd.C_alloc ?_ _) | (with_reducible refine Kd.C_drewN ?_ _) | (with_reducible refine Kd.C_drew ?_))); (case side2 => exact (Kd.R_reads' HO_8.out).2.1); rintro e w87 ⟨rfl, hb⟩; refine ⟨_, rfl, ?_⟩; have n0_ := Aside0.mk (Kd.R_below (by (with_reducible repeat (first | apply Kd.R_alloc | apply Kd.R_drewN | apply Kd.R_drew)); exact HO_8.out) hb); have n1_ := Aside0.mk (below_step (by repeat (first | (with_reducible first | exact HB.out | apply below_alloc | apply pw_below_drewN | apply below_drew1) | exact HB.out)) hb); clear HO_8; clear HB; have HO_8 := n0_; have HB := n1_; clear n0_ n1_; (try clear hb); (try clear hb2); (try clear hk); (try clear hi); have p174 : 0 ≤ (x10_3 : Int) := of_decide_eq_true (by first | (with_reducible assumption) | assumption); have q174 : x10_3 < (l0.length : Int) := of_decide_eq_true (by first | (with_reducible assumption) | assumption); obtain ⟨ad174, e174, hx174_0, hx174_1⟩ := at_T41 HR0.out x10_3 p174 q174; obtain rfl : ad171 = ad174 := (by injection e174); replace hx174_0 := (HB.out.cell (World.block_lt_of_cell? w _ hx174_0)).trans hx174_0; replace hx174_1 := (HB.out.cell (World.block_lt_of_cell? w _ hx174_1)).trans hx174_1; replace p174 := eq_true p174; replace q174 := eq_true q174) | ((with_reducible refine gate_callee (f := 18) rfl ?_); refine goesL_ (some 99) rfl rfl Try.func18 (by kernel_rfl) rfl #[.slice Ao86 t162.length co86, .int .i32 ((rd_T41 l0 x10_3).f1)] rfl (by (try simp only [List.map_toArray, List.map_cons, List.map_nil]); first | done | rfl | (simp only [List.length_drop, List.length_take]; rfl)) ?_; (with_reducible refine (ranges_Code.calls kj55 _ _ t162 ((rd_T41 l0 x10_3).f1) t175 false _ ?side1 ?side2 A62.out).mono ?_); (case side1 => repeat (first | exact (Kd.R_reads' HO_8.out).2.2 | (with_reducible refine Kd.C_alloc ?_ _) | (with_reducible refine Kd.C_drewN ?_ _) | (with_reducible refine Kd.C_drew ?_))); (case side2 => exact (Kd.R_reads' HO_8.out).2.1); rintro e w88 ⟨rfl, hb⟩; refine ⟨_, rfl, ?_⟩; have n0_ := Aside0.mk (Kd.R_below (by (with_reducible repeat (first | apply Kd.R_alloc | apply Kd.R_drewN | apply Kd.R_drew)); exact HO_8.out) hb); have n1_ := Aside0.mk (below_step (by repeat (first | (with_reducible first | exact HB.out | apply below_alloc | apply pw_below_drewN | apply below_drew1) | exact HB.out)) hb); clear HO_8; clear HB; have HO_8 := n0_; have HB := n1_; clear n0_ n1_; (try clear hb); (try clear hb2); (try clear hk); (try clear hi)) | ((with_reducible refine gate_callee (f := 16) rfl ?_); refine goesL_ (some 105) rfl rfl Try.func16 (by kernel_rfl) rfl #[.slice Ao86 t162.length co86, .int .i64 t175] rfl (by (try simp only [List.map_toArray, List.map_cons, List.map_nil]); first | done | rfl | (simp only [List.length_drop, List.length_take]; rfl)) ?_; (with_reducible refine (ranges_Scalar.calls kj55 _ _ t162 t175 t177 t178 _ ?side1 ?side2 A63.out).mono ?_); (case side1 => repeat (first | exact (Kd.R_reads' HO_8.out).2.2 | (with_reducible refine Kd.C_alloc ?_ _) | (with_reducible refine Kd.C_drewN ?_ _) | (with_reducible refine Kd.C_drew ?_))); (case side2 => exact (Kd.R_reads' HO_8.out).2.1); rintro e w89 ⟨rfl, hb⟩; refine ⟨_, rfl, ?_⟩; have n0_ := Aside0.mk (Kd.R_below (by (with_reducible repeat (first | apply Kd.R_alloc | apply Kd.R_drewN | apply Kd.R_drew)); exact HO_8.out) hb); have n1_ := Aside0.mk (below_step (by repeat (first | (with_reducible first | exact HB.out | apply below_alloc | apply pw_below_drewN | apply below_drew1) | exact HB.out)) hb); clear HO_8; clear HB; have HO_8 := n0_; have HB := n1_; clear n0_ n1_; (try clear hb); (try clear hb2); (try clear hk); (try clear hi); have p179 : 0 ≤ (x10_3 : Int) := of_decide_eq_true (by first | (with_reducible assumption) | assumption); have q179 : x10_3 < (l0.length : Int) := of_decide_eq_true (by first | (with_reducible assumption) | assumption); obtain ⟨ad179, e179, hx179_0, hx179_1⟩ := at_T41 HR0.out x10_3 p179 q179; obtain rfl : ad171 = ad179 := (by injection e179); replace hx179_0 := (HB.out.cell (World.block_lt_of_cell? w _ hx179_0)).trans hx179_0; replace hx179_1 := (HB.out.cell (World.block_lt_of_cell? w _ hx179_1)).trans hx179_1; replace p179 := eq_true p179; replace q179 := eq_true q179))
                                    go_ret
                                    exact ⟨by first | rfl | (simp [errW_none, errW_some] <;> rfl) | (simp [*, errW_none, errW_some] <;> rfl), by repeat (first | (with_reducible first | exact HB.out | apply below_alloc | apply pw_below_drewN | apply below_drew1) | exact HB.out)⟩
                                · replace c65 := Bool.eq_false_iff.mpr c65
                                  subst c65
                                  have H1 : (some false) = some r := by rw [if_neg (show ¬ (false = true) by decide)] at H; exact H
                                  clear H
                                  have H := H1
                                  clear H1
                                  obtain rfl := Option.some.inj H
                                  have p171 : 0 ≤ (x10_3 : Int) := of_decide_eq_true (by first | (with_reducible assumption) | assumption)
                                  have q171 : x10_3 < (l0.length : Int) := of_decide_eq_true (by first | (with_reducible assumption) | assumption)
                                  obtain ⟨ad171, e171, hx171_0, hx171_1⟩ := at_T41 HR0.out x10_3 p171 q171
                                  cases e171
                                  replace hx171_0 := (HB.out.cell (World.block_lt_of_cell? w _ hx171_0)).trans hx171_0
                                  replace hx171_1 := (HB.out.cell (World.block_lt_of_cell? w _ hx171_1)).trans hx171_1
                                  replace p171 := eq_true p171
                                  replace q171 := eq_true q171
                                  obtain ⟨Ao90, co90, eo90⟩ := Kd.R_slice HO_8.out
                                  subst eo90
                                  go_wp2_with (first | ((with_reducible refine gate_callee (f := 16) rfl ?_); refine goesL_ (some 89) rfl rfl Try.func16 (by kernel_rfl) rfl #[.slice Ao90 t162.length co90, .int .i64 ((rd_T41 l0 x10_3).f0)] rfl (by (try simp only [List.map_toArray, List.map_cons, List.map_nil]); first | done | rfl | (simp only [List.length_drop, List.length_take]; rfl)) ?_; (with_reducible refine (ranges_Scalar.calls kj55 _ _ t162 ((rd_T41 l0 x10_3).f0) t172 false _ ?side1 ?side2 A61.out).mono ?_); (case side1 => repeat (first | exact (Kd.R_reads' HO_8.out).2.2 | (with_reducible refine Kd.C_alloc ?_ _) | (with_reducible refine Kd.C_drewN ?_ _) | (with_reducible refine Kd.C_drew ?_))); (case side2 => exact (Kd.R_reads' HO_8.out).2.1); rintro e w91 ⟨rfl, hb⟩; refine ⟨_, rfl, ?_⟩; have n0_ := Aside0.mk (Kd.R_below (by (with_reducible repeat (first | apply Kd.R_alloc | apply Kd.R_drewN | apply Kd.R_drew)); exact HO_8.out) hb); have n1_ := Aside0.mk (below_step (by repeat (first | (with_reducible first | exact HB.out | apply below_alloc | apply pw_below_drewN | apply below_drew1) | exact HB.out)) hb); clear HO_8; clear HB; have HO_8 := n0_; have HB := n1_; clear n0_ n1_; (try clear hb); (try clear hb2); (try clear hk); (try clear hi); have p174 : 0 ≤ (x10_3 : Int) := of_decide_eq_true (by first | (with_reducible assumption) | assumption); have q174 : x10_3 < (l0.length : Int) := of_decide_eq_true (by first | (with_reducible assumption) | assumption); obtain ⟨ad174, e174, hx174_0, hx174_1⟩ := at_T41 HR0.out x10_3 p174 q174; obtain rfl : ad171 = ad174 := (by injection e174); replace hx174_0 := (HB.out.cell (World.block_lt_of_cell? w _ hx174_0)).trans hx174_0; replace hx174_1 := (HB.out.cell (World.block_lt_of_cell? w _ hx174_1)).trans hx174_1; replace p174 := eq_true p174; replace q174 := eq_true q174) | ((with_reducible refine gate_callee (f := 18) rfl ?_); refine goesL_ (some 99) rfl rfl Try.func18 (by kernel_rfl) rfl #[.slice Ao90 t162.length co90, .int .i32 ((rd_T41 l0 x10_3).f1)] rfl (by (try simp only [List.map_toArray, List.map_cons, List.map_nil]); first | done | rfl | (simp only [List.length_drop, List.length_take]; rfl)) ?_; (with_reducible refine (ranges_Code.calls kj55 _ _ t162 ((rd_T41 l0 x10_3).f1) t175 t176 _ ?side1 ?side2 A62.out).mono ?_); (case side1 => repeat (first | exact (Kd.R_reads' HO_8.out).2.2 | (with_reducible refine Kd.C_alloc ?_ _) | (with_reducible refine Kd.C_drewN ?_ _) | (with_reducible refine Kd.C_drew ?_))); (case side2 => exact (Kd.R_reads' HO_8.out).2.1); rintro e w92 ⟨rfl, hb⟩; refine ⟨_, rfl, ?_⟩; have n0_ := Aside0.mk (Kd.R_below (by (with_reducible repeat (first | apply Kd.R_alloc | apply Kd.R_drewN | apply Kd.R_drew)); exact HO_8.out) hb); have n1_ := Aside0.mk (below_step (by repeat (first | (with_reducible first | exact HB.out | apply below_alloc | apply pw_below_drewN | apply below_drew1) | exact HB.out)) hb); clear HO_8; clear HB; have HO_8 := n0_; have HB := n1_; clear n0_ n1_; (try clear hb); (try clear hb2); (try clear hk); (try clear hi)) | ((with_reducible refine gate_callee (f := 16) rfl ?_); refine goesL_ (some 105) rfl rfl Try.func16 (by kernel_rfl) rfl #[.slice Ao90 t162.length co90, .int .i64 t175] rfl (by (try simp only [List.map_toArray, List.map_cons, List.map_nil]); first | done | rfl | (simp only [List.length_drop, List.length_take]; rfl)) ?_; (with_reducible refine (ranges_Scalar.calls kj55 _ _ t162 t175 t177 t178 _ ?side1 ?side2 A63.out).mono ?_); (case side1 => repeat (first | exact (Kd.R_reads' HO_8.out).2.2 | (with_reducible refine Kd.C_alloc ?_ _) | (with_reducible refine Kd.C_drewN ?_ _) | (with_reducible refine Kd.C_drew ?_))); (case side2 => exact (Kd.R_reads' HO_8.out).2.1); rintro e w93 ⟨rfl, hb⟩; refine ⟨_, rfl, ?_⟩; have n0_ := Aside0.mk (Kd.R_below (by (with_reducible repeat (first | apply Kd.R_alloc | apply Kd.R_drewN | apply Kd.R_drew)); exact HO_8.out) hb); have n1_ := Aside0.mk (below_step (by repeat (first | (with_reducible first | exact HB.out | apply below_alloc | apply pw_below_drewN | apply below_drew1) | exact HB.out)) hb); clear HO_8; clear HB; have HO_8 := n0_; have HB := n1_; clear n0_ n1_; (try clear hb); (try clear hb2); (try clear hk); (try clear hi); have p179 : 0 ≤ (x10_3 : Int) := of_decide_eq_true (by first | (with_reducible assumption) | assumption); have q179 : x10_3 < (l0.length : Int) := of_decide_eq_true (by first | (with_reducible assumption) | assumption); obtain ⟨ad179, e179, hx179_0, hx179_1⟩ := at_T41 HR0.out x10_3 p179 q179; obtain rfl : ad171 = ad179 := (by injection e179); replace hx179_0 := (HB.out.cell (World.block_lt_of_cell? w _ hx179_0)).trans hx179_0; replace hx179_1 := (HB.out.cell (World.block_lt_of_cell? w _ hx179_1)).trans hx179_1; replace p179 := eq_true p179; replace q179 := eq_true q179))
                                  go_ret
                                  exact ⟨by first | rfl | (simp [errW_none, errW_some] <;> rfl) | (simp [*, errW_none, errW_some] <;> rfl), by repeat (first | (with_reducible first | exact HB.out | apply below_alloc | apply pw_below_drewN | apply below_drew1) | exact HB.out)⟩
                              · rw [if_neg c64] at H
                                have c64b0 : (t172 == ((rd_T41 l0 x10_3).f1)) = false := beq_eq_false_iff_ne.mpr c64
                                have c64b1 : (t172 != ((rd_T41 l0 x10_3).f1)) = true := bne_iff_ne.mpr c64
                                obtain rfl := Option.some.inj H
                                have p171 : 0 ≤ (x10_3 : Int) := of_decide_eq_true (by first | (with_reducible assumption) | assumption)
                                have q171 : x10_3 < (l0.length : Int) := of_decide_eq_true (by first | (with_reducible assumption) | assumption)
                                obtain ⟨ad171, e171, hx171_0, hx171_1⟩ := at_T41 HR0.out x10_3 p171 q171
                                cases e171
                                replace hx171_0 := (HB.out.cell (World.block_lt_of_cell? w _ hx171_0)).trans hx171_0
                                replace hx171_1 := (HB.out.cell (World.block_lt_of_cell? w _ hx171_1)).trans hx171_1
                                replace p171 := eq_true p171
                                replace q171 := eq_true q171
                                obtain ⟨Ao94, co94, eo94⟩ := Kd.R_slice HO_8.out
                                subst eo94
                                go_wp2_with (first | ((with_reducible refine gate_callee (f := 16) rfl ?_); refine goesL_ (some 89) rfl rfl Try.func16 (by kernel_rfl) rfl #[.slice Ao94 t162.length co94, .int .i64 ((rd_T41 l0 x10_3).f0)] rfl (by (try simp only [List.map_toArray, List.map_cons, List.map_nil]); first | done | rfl | (simp only [List.length_drop, List.length_take]; rfl)) ?_; (with_reducible refine (ranges_Scalar.calls kj55 _ _ t162 ((rd_T41 l0 x10_3).f0) t172 t173 _ ?side1 ?side2 A61.out).mono ?_); (case side1 => repeat (first | exact (Kd.R_reads' HO_8.out).2.2 | (with_reducible refine Kd.C_alloc ?_ _) | (with_reducible refine Kd.C_drewN ?_ _) | (with_reducible refine Kd.C_drew ?_))); (case side2 => exact (Kd.R_reads' HO_8.out).2.1); rintro e w95 ⟨rfl, hb⟩; refine ⟨_, rfl, ?_⟩; have n0_ := Aside0.mk (Kd.R_below (by (with_reducible repeat (first | apply Kd.R_alloc | apply Kd.R_drewN | apply Kd.R_drew)); exact HO_8.out) hb); have n1_ := Aside0.mk (below_step (by repeat (first | (with_reducible first | exact HB.out | apply below_alloc | apply pw_below_drewN | apply below_drew1) | exact HB.out)) hb); clear HO_8; clear HB; have HO_8 := n0_; have HB := n1_; clear n0_ n1_; (try clear hb); (try clear hb2); (try clear hk); (try clear hi); have p174 : 0 ≤ (x10_3 : Int) := of_decide_eq_true (by first | (with_reducible assumption) | assumption); have q174 : x10_3 < (l0.length : Int) := of_decide_eq_true (by first | (with_reducible assumption) | assumption); obtain ⟨ad174, e174, hx174_0, hx174_1⟩ := at_T41 HR0.out x10_3 p174 q174; obtain rfl : ad171 = ad174 := (by injection e174); replace hx174_0 := (HB.out.cell (World.block_lt_of_cell? w _ hx174_0)).trans hx174_0; replace hx174_1 := (HB.out.cell (World.block_lt_of_cell? w _ hx174_1)).trans hx174_1; replace p174 := eq_true p174; replace q174 := eq_true q174) | ((with_reducible refine gate_callee (f := 18) rfl ?_); refine goesL_ (some 99) rfl rfl Try.func18 (by kernel_rfl) rfl #[.slice Ao94 t162.length co94, .int .i32 ((rd_T41 l0 x10_3).f1)] rfl (by (try simp only [List.map_toArray, List.map_cons, List.map_nil]); first | done | rfl | (simp only [List.length_drop, List.length_take]; rfl)) ?_; (with_reducible refine (ranges_Code.calls kj55 _ _ t162 ((rd_T41 l0 x10_3).f1) t175 t176 _ ?side1 ?side2 A62.out).mono ?_); (case side1 => repeat (first | exact (Kd.R_reads' HO_8.out).2.2 | (with_reducible refine Kd.C_alloc ?_ _) | (with_reducible refine Kd.C_drewN ?_ _) | (with_reducible refine Kd.C_drew ?_))); (case side2 => exact (Kd.R_reads' HO_8.out).2.1); rintro e w96 ⟨rfl, hb⟩; refine ⟨_, rfl, ?_⟩; have n0_ := Aside0.mk (Kd.R_below (by (with_reducible repeat (first | apply Kd.R_alloc | apply Kd.R_drewN | apply Kd.R_drew)); exact HO_8.out) hb); have n1_ := Aside0.mk (below_step (by repeat (first | (with_reducible first | exact HB.out | apply below_alloc | apply pw_below_drewN | apply below_drew1) | exact HB.out)) hb); clear HO_8; clear HB; have HO_8 := n0_; have HB := n1_; clear n0_ n1_; (try clear hb); (try clear hb2); (try clear hk); (try clear hi)) | ((with_reducible refine gate_callee (f := 16) rfl ?_); refine goesL_ (some 105) rfl rfl Try.func16 (by kernel_rfl) rfl #[.slice Ao94 t162.length co94, .int .i64 t175] rfl (by (try simp only [List.map_toArray, List.map_cons, List.map_nil]); first | done | rfl | (simp only [List.length_drop, List.length_take]; rfl)) ?_; (with_reducible refine (ranges_Scalar.calls kj55 _ _ t162 t175 t177 t178 _ ?side1 ?side2 A63.out).mono ?_); (case side1 => repeat (first | exact (Kd.R_reads' HO_8.out).2.2 | (with_reducible refine Kd.C_alloc ?_ _) | (with_reducible refine Kd.C_drewN ?_ _) | (with_reducible refine Kd.C_drew ?_))); (case side2 => exact (Kd.R_reads' HO_8.out).2.1); rintro e w97 ⟨rfl, hb⟩; refine ⟨_, rfl, ?_⟩; have n0_ := Aside0.mk (Kd.R_below (by (with_reducible repeat (first | apply Kd.R_alloc | apply Kd.R_drewN | apply Kd.R_drew)); exact HO_8.out) hb); have n1_ := Aside0.mk (below_step (by repeat (first | (with_reducible first | exact HB.out | apply below_alloc | apply pw_below_drewN | apply below_drew1) | exact HB.out)) hb); clear HO_8; clear HB; have HO_8 := n0_; have HB := n1_; clear n0_ n1_; (try clear hb); (try clear hb2); (try clear hk); (try clear hi); have p179 : 0 ≤ (x10_3 : Int) := of_decide_eq_true (by first | (with_reducible assumption) | assumption); have q179 : x10_3 < (l0.length : Int) := of_decide_eq_true (by first | (with_reducible assumption) | assumption); obtain ⟨ad179, e179, hx179_0, hx179_1⟩ := at_T41 HR0.out x10_3 p179 q179; obtain rfl : ad171 = ad179 := (by injection e179); replace hx179_0 := (HB.out.cell (World.block_lt_of_cell? w _ hx179_0)).trans hx179_0; replace hx179_1 := (HB.out.cell (World.block_lt_of_cell? w _ hx179_1)).trans hx179_1; replace p179 := eq_true p179; replace q179 := eq_true q179))
                                go_ret
                                exact ⟨by first | rfl | (simp [errW_none, errW_some] <;> rfl) | (simp [*, errW_none, errW_some] <;> rfl), by repeat (first | (with_reducible first | exact HB.out | apply below_alloc | apply pw_below_drewN | apply below_drew1) | exact HB.out)⟩
                            · rw [if_neg c60] at H
                              exact absurd H (by simp)
                          · rw [if_neg c59] at H
                            exact absurd H (by simp)
                        · replace c58 := Bool.eq_false_iff.mpr c58
                          subst c58
                          have H1 : (some true) = some r := by rw [if_neg (show ¬ (false = true) by decide)] at H; exact H
                          clear H
                          have H := H1
                          clear H1
                          obtain rfl := Option.some.inj H
                          go_wp2
                          go_ret
                          exact ⟨by first | rfl | (simp [errW_none, errW_some] <;> rfl) | (simp [*, errW_none, errW_some] <;> rfl), by repeat (first | (with_reducible first | exact HB.out | apply below_alloc | apply pw_below_drewN | apply below_drew1) | exact HB.out)⟩
        · rw [if_neg c37] at H
          have c37b0 : (t163 == 0) = false := beq_eq_false_iff_ne.mpr c37
          have c37b1 : (t163 != 0) = true := bne_iff_ne.mpr c37
          obtain rfl := Option.some.inj H
          go_wp2_with (first | ((with_reducible refine gate_callee (f := 8) rfl ?_); refine goesL_ (some 47) rfl rfl Try.func8 (by kernel_rfl) rfl #[.slice A0 l0.length c0] rfl (by (try simp only [List.map_toArray, List.map_cons, List.map_nil]); first | done | rfl | (simp only [List.length_drop, List.length_take]; rfl)) ?_; (with_reducible refine (ranges_Pack.calls kj5 _ _ l0 t162 t163 _ ?side1 ?side2 A36.out).mono ?_); (case side1 => repeat (first | exact (Kd.C_below HR0.out HB.out) | (with_reducible refine Kd.C_alloc ?_ _) | (with_reducible refine Kd.C_drewN ?_ _) | (with_reducible refine Kd.C_drew ?_))); (case side2 => exact HC0.out); rintro e w98 ⟨v164, rfl, ho0, hb⟩; refine ⟨_, rfl, ?_⟩; have n0_ := Aside0.mk (Kd.R_lower ho0 (below_size (by repeat (first | (with_reducible first | exact HB.out | apply below_alloc | apply pw_below_drewN | apply below_drew1) | exact HB.out)))); have n1_ := Aside0.mk (below_step (by repeat (first | (with_reducible first | exact HB.out | apply below_alloc | apply pw_below_drewN | apply below_drew1) | exact HB.out)) hb); clear HB; have HO165 := n0_; have HB := n1_; clear n0_ n1_; (try clear hb); (try clear hb2); (try clear hk); (try clear hi); (try clear ho0); obtain ⟨Ao99, co99, eo99⟩ := Kd.R_slice HO165.out; subst eo99))
          go_ret
          exact ⟨by first | rfl | (simp [errW_none, errW_some] <;> rfl) | (simp [*, errW_none, errW_some] <;> rfl), by repeat (first | (with_reducible first | exact HB.out | apply below_alloc | apply pw_below_drewN | apply below_drew1) | exact HB.out)⟩
  · replace c4 := Bool.eq_false_iff.mpr c4
    subst c4
    have H1 : (some false) = some r := by rw [if_neg (show ¬ (false = true) by decide)] at H; exact H
    clear H
    have H := H1
    clear H1
    obtain rfl := Option.some.inj H
    go_enter Try.func5, Try.ntmps5
    go_wp2_with (first | ((with_reducible refine gate_callee (f := 20) rfl ?_); refine goesL_ (some 17) rfl rfl Try.func20 (by kernel_rfl) rfl #[] rfl (by (try simp only [List.map_toArray, List.map_cons, List.map_nil]); first | done | rfl | (simp only [List.length_drop, List.length_take]; rfl)) ?_; (with_reducible refine (dragomanlaw06_works.calls k  false _ A3.out).mono ?_); rintro e w100 ⟨rfl, hb⟩; refine ⟨_, rfl, ?_⟩; have n0_ := Aside0.mk (below_step (by repeat (first | (with_reducible first | exact HB.out | apply below_alloc | apply pw_below_drewN | apply below_drew1) | exact HB.out)) hb); clear HB; have HB := n0_; clear n0_; (try clear hb); (try clear hb2); (try clear hk); (try clear hi)))
    go_ret
    exact ⟨by first | rfl | (simp [errW_none, errW_some] <;> rfl) | (simp [*, errW_none, errW_some] <;> rfl), by repeat (first | (with_reducible first | exact HB.out | apply below_alloc | apply pw_below_drewN | apply below_drew1) | exact HB.out)⟩

end Go.Proofs.Ytnapldildjnchaa.PRangesBack
