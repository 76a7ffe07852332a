/- UcsBack: what the functions answer, and their walks; what is not printed is given by YtegogeglofikhaaDoorGUcsBack. Written by a program of ours over the print. -/
import Derived.Test.YtegogeglofikhaaDoorPUcsBackx0
import Derived.Test.YtegogeglofikhaaDoorPUcsBackx1
import Derived.Test.YtegogeglofikhaaDoorPUcsBackx2
import Derived.Test.YtegogeglofikhaaDoorGUcsBack
namespace Go.Proofs.YtegogeglofikhaaDoor.PUcsBack
open Go.Proofs.YtegogeglofikhaaDoor
open Go.RowKit Go.Proofs.YtegogeglofikhaaDoorW.PrintWords Go.Proofs.YtegogeglofikhaaDoorW.PrintLast Go.Proofs.YtegogeglofikhaaDoorW.PrintMore
attribute [local go_sem] max2_int min2_int max_two min_two max_three min_three max_four min_four   -- for this text's walks alone
set_option linter.unusedVariables false
set_option linter.unusedSimpArgs false

/-! ### dragomanlaw01_UcsBack: function 4 -/
mutual
def dragomanlaw01_UcsBack.j0 : Nat → Int → Int → Option (Bool)
  | 0, _, _ => none
  | k + 1, x0, x1 => (ucs_Join.f x0 x1).bind fun bt181 => (if bt181.2 = true then ((ucs_Split.f bt181.1).bind fun bt183 => (if bt183.2.2 = true then (if bt183.1 = x0 then (if bt183.2.1 = x1 then ((ucs_Scalar.f bt181.1).bind fun t186 => (if t186 = true then (dragomanlaw01_UcsBack.j1 k x0) else (some false))) else (some false)) else (some false)) else (some false))) else (dragomanlaw01_UcsBack.j1 k x0))
def dragomanlaw01_UcsBack.j1 : Nat → Int → Option (Bool)
  | 0, _ => none
  | k + 1, x0 => (ucs_Hex.f k x0).bind fun t187 => ((ucs_Parse.f k t187).bind fun bt188 => ((ucs_Scalar.f x0).bind fun t190 => (if t190 = true then (dragomanlaw01_UcsBack.j2 k x0 t187 bt188.1 bt188.2 (0 + 1)) else (dragomanlaw01_UcsBack.j2 k x0 t187 bt188.1 bt188.2 0))))
def dragomanlaw01_UcsBack.j2 : Nat → Int → ByteArray → Int → Bool → Int → Option (Bool)
  | 0, _, _, _, _, _ => none
  | k + 1, x0, x15, x16, x17, x18 => (ucs_High.f x0).bind fun t191 => (if t191 = true then (dragomanlaw01_UcsBack.j3 k x0 x15 x16 x17 (wrap64 (x18 + 1))) else (dragomanlaw01_UcsBack.j3 k x0 x15 x16 x17 x18))
def dragomanlaw01_UcsBack.j3 : Nat → Int → ByteArray → Int → Bool → Int → Option (Bool)
  | 0, _, _, _, _, _ => none
  | k + 1, x0, x15, x16, x17, x18 => (ucs_Low.f x0).bind fun t192 => (if t192 = true then ((ucs_Scalar.f x0).bind fun t193 => (if (x17 == t193) = true then (if x17 = true then (if x16 = x0 then (if (x15.size : Int) ≥ 6 then (if (wrap64 (x18 + 1)) ≤ 1 then (if x0 ≥ 0 then (some (((wrap64 (x18 + 1)) == 1) == (decide (x0 ≤ 1114111)))) else (some (((wrap64 (x18 + 1)) == 1) == false))) else (some false)) else (some false)) else (some false)) else (if (wrap64 (x18 + 1)) ≤ 1 then (if x0 ≥ 0 then (some (((wrap64 (x18 + 1)) == 1) == (decide (x0 ≤ 1114111)))) else (some (((wrap64 (x18 + 1)) == 1) == false))) else (some false))) else (some false))) else ((ucs_Scalar.f x0).bind fun t194 => (if (x17 == t194) = true then (if x17 = true then (if x16 = x0 then (if (x15.size : Int) ≥ 6 then (if x18 ≤ 1 then (if x0 ≥ 0 then (some ((x18 == 1) == (decide (x0 ≤ 1114111)))) else (some ((x18 == 1) == false))) else (some false)) else (some false)) else (some false)) else (if x18 ≤ 1 then (if x0 ≥ 0 then (some ((x18 == 1) == (decide (x0 ≤ 1114111)))) else (some ((x18 == 1) == false))) else (some false))) else (some false))))
end
def dragomanlaw01_UcsBack.f (k : Nat) (a0 : Int) (a1 : Int) : Option (Bool) := (dragomanlaw01_works.f k).bind fun t172 => (if t172 = true then ((ucs_Split.f a0).bind fun bt173 => (if bt173.2.2 = true then ((ucs_Join.f bt173.1 bt173.2.1).bind fun bt176 => (if bt176.2 = true then (if bt176.1 = a0 then ((ucs_High.f bt173.1).bind fun t178 => (if t178 = true then ((ucs_Low.f bt173.2.1).bind fun t179 => (if t179 = true then ((ucs_Plane.f a0).bind fun t180 => (if t180 < 1 then (some false) else (dragomanlaw01_UcsBack.j0 k a0 a1))) else (some false))) else (some false))) else (some false)) else (some false))) else (dragomanlaw01_UcsBack.j0 k a0 a1))) else (some false))
theorem dragomanlaw01_UcsBack.mono_l : ∀ k, (∀ y0 y1, LeO (dragomanlaw01_UcsBack.j0 k y0 y1) (dragomanlaw01_UcsBack.j0 (k + 1) y0 y1)) ∧ (∀ y0, LeO (dragomanlaw01_UcsBack.j1 k y0) (dragomanlaw01_UcsBack.j1 (k + 1) y0)) ∧ (∀ y0 y1 y2 y3 y4, LeO (dragomanlaw01_UcsBack.j2 k y0 y1 y2 y3 y4) (dragomanlaw01_UcsBack.j2 (k + 1) y0 y1 y2 y3 y4)) ∧ (∀ y0 y1 y2 y3 y4, LeO (dragomanlaw01_UcsBack.j3 k y0 y1 y2 y3 y4) (dragomanlaw01_UcsBack.j3 (k + 1) y0 y1 y2 y3 y4))
  | 0 => ⟨fun _ _ r h => by simp [dragomanlaw01_UcsBack.j0] at h, fun _ r h => by simp [dragomanlaw01_UcsBack.j1] at h, fun _ _ _ _ _ r h => by simp [dragomanlaw01_UcsBack.j2] at h, fun _ _ _ _ _ r h => by simp [dragomanlaw01_UcsBack.j3] at h⟩
  | k + 1 => by
    obtain ⟨ih0, ih1, ih2, ih3⟩ := dragomanlaw01_UcsBack.mono_l k
    refine ⟨?_, ?_, ?_, ?_⟩
    · intro y0 y1
      unfold dragomanlaw01_UcsBack.j0
      repeat' first
      | (with_reducible exact ih0 _ _)
      | (with_reducible exact ih1 _)
      | (with_reducible exact ih2 _ _ _ _ _)
      | (with_reducible exact ih3 _ _ _ _ _)
      | (with_reducible exact dragomanlaw01_works.mono _)
      | (with_reducible exact ucs_Hex.mono _ _)
      | (with_reducible exact ucs_Parse.mono _ _)
      | (with_reducible exact LeO.refl _)
      | (with_reducible exact LeO.none _)
      | (with_reducible refine LeO.ite ?_ ?_)
      | (with_reducible refine LeO.bind ?_ (fun _ => ?_))
      | exact ih0 _ _
      | exact ih1 _
      | exact ih2 _ _ _ _ _
      | exact ih3 _ _ _ _ _
      | exact dragomanlaw01_works.mono _
      | exact ucs_Hex.mono _ _
      | exact ucs_Parse.mono _ _
      | exact LeO.none _
      | refine LeO.ite ?_ ?_
      | refine LeO.bind ?_ (fun _ => ?_)
    · intro y0
      unfold dragomanlaw01_UcsBack.j1
      repeat' first
      | (with_reducible exact ih0 _ _)
      | (with_reducible exact ih1 _)
      | (with_reducible exact ih2 _ _ _ _ _)
      | (with_reducible exact ih3 _ _ _ _ _)
      | (with_reducible exact dragomanlaw01_works.mono _)
      | (with_reducible exact ucs_Hex.mono _ _)
      | (with_reducible exact ucs_Parse.mono _ _)
      | (with_reducible exact LeO.refl _)
      | (with_reducible exact LeO.none _)
      | (with_reducible refine LeO.ite ?_ ?_)
      | (with_reducible refine LeO.bind ?_ (fun _ => ?_))
      | exact ih0 _ _
      | exact ih1 _
      | exact ih2 _ _ _ _ _
      | exact ih3 _ _ _ _ _
      | exact dragomanlaw01_works.mono _
      | exact ucs_Hex.mono _ _
      | exact ucs_Parse.mono _ _
      | exact LeO.none _
      | refine LeO.ite ?_ ?_
      | refine LeO.bind ?_ (fun _ => ?_)
    · intro y0 y1 y2 y3 y4
      unfold dragomanlaw01_UcsBack.j2
      repeat' first
      | (with_reducible exact ih0 _ _)
      | (with_reducible exact ih1 _)
      | (with_reducible exact ih2 _ _ _ _ _)
      | (with_reducible exact ih3 _ _ _ _ _)
      | (with_reducible exact dragomanlaw01_works.mono _)
      | (with_reducible exact ucs_Hex.mono _ _)
      | (with_reducible exact ucs_Parse.mono _ _)
      | (with_reducible exact LeO.refl _)
      | (with_reducible exact LeO.none _)
      | (with_reducible refine LeO.ite ?_ ?_)
      | (with_reducible refine LeO.bind ?_ (fun _ => ?_))
      | exact ih0 _ _
      | exact ih1 _
      | exact ih2 _ _ _ _ _
      | exact ih3 _ _ _ _ _
      | exact dragomanlaw01_works.mono _
      | exact ucs_Hex.mono _ _
      | exact ucs_Parse.mono _ _
      | exact LeO.none _
      | refine LeO.ite ?_ ?_
      | refine LeO.bind ?_ (fun _ => ?_)
    · intro y0 y1 y2 y3 y4
      unfold dragomanlaw01_UcsBack.j3
      repeat' first
      | (with_reducible exact ih0 _ _)
      | (with_reducible exact ih1 _)
      | (with_reducible exact ih2 _ _ _ _ _)
      | (with_reducible exact ih3 _ _ _ _ _)
      | (with_reducible exact dragomanlaw01_works.mono _)
      | (with_reducible exact ucs_Hex.mono _ _)
      | (with_reducible exact ucs_Parse.mono _ _)
      | (with_reducible exact LeO.refl _)
      | (with_reducible exact LeO.none _)
      | (with_reducible refine LeO.ite ?_ ?_)
      | (with_reducible refine LeO.bind ?_ (fun _ => ?_))
      | exact ih0 _ _
      | exact ih1 _
      | exact ih2 _ _ _ _ _
      | exact ih3 _ _ _ _ _
      | exact dragomanlaw01_works.mono _
      | exact ucs_Hex.mono _ _
      | exact ucs_Parse.mono _ _
      | exact LeO.none _
      | refine LeO.ite ?_ ?_
      | refine LeO.bind ?_ (fun _ => ?_)
theorem dragomanlaw01_UcsBack.mono : ∀ a0 a1 k, LeO (dragomanlaw01_UcsBack.f k a0 a1) (dragomanlaw01_UcsBack.f (k + 1) a0 a1) := by
  intro a0 a1 k
  obtain ⟨ih0, ih1, ih2, ih3⟩ := dragomanlaw01_UcsBack.mono_l k
  unfold dragomanlaw01_UcsBack.f
  repeat' first
      | (with_reducible exact ih0 _ _)
      | (with_reducible exact ih1 _)
      | (with_reducible exact ih2 _ _ _ _ _)
      | (with_reducible exact ih3 _ _ _ _ _)
      | (with_reducible exact dragomanlaw01_works.mono _)
      | (with_reducible exact ucs_Hex.mono _ _)
      | (with_reducible exact ucs_Parse.mono _ _)
      | (with_reducible exact LeO.refl _)
      | (with_reducible exact LeO.none _)
      | (with_reducible refine LeO.ite ?_ ?_)
      | (with_reducible refine LeO.bind ?_ (fun _ => ?_))
      | exact ih0 _ _
      | exact ih1 _
      | exact ih2 _ _ _ _ _
      | exact ih3 _ _ _ _ _
      | exact dragomanlaw01_works.mono _
      | exact ucs_Hex.mono _ _
      | exact ucs_Parse.mono _ _
      | exact LeO.none _
      | refine LeO.ite ?_ ?_
      | refine LeO.bind ?_ (fun _ => ?_)
set_option maxHeartbeats 8000000 in
set_option maxRecDepth 100000 in
theorem dragomanlaw01_UcsBack.calls (k : Nat) (a0 : Int) (a1 : Int) (r : Bool) (w : World) (h : dragomanlaw01_UcsBack.f k a0 a1 = some r) (hT : Uc.Tab w) :
    Calls Tryd.prog 4 #[.int .i32 a0, .int .i32 a1] w fun e w' => e = .returned (.bool r) ∧ Below w.heap.size w w' := by
  have HB := Aside0.mk (Below.refl w.heap.size w)
  have H : ((dragomanlaw01_works.f k).bind fun t172 => (if t172 = true then ((ucs_Split.f a0).bind fun bt173 => (if bt173.2.2 = true then ((ucs_Join.f bt173.1 bt173.2.1).bind fun bt176 => (if bt176.2 = true then (if bt176.1 = a0 then ((ucs_High.f bt173.1).bind fun t178 => (if t178 = true then ((ucs_Low.f bt173.2.1).bind fun t179 => (if t179 = true then ((ucs_Plane.f a0).bind fun t180 => (if t180 < 1 then (some false) else (dragomanlaw01_UcsBack.j0 k a0 a1))) else (some false))) else (some false))) else (some false)) else (some false))) else (dragomanlaw01_UcsBack.j0 k a0 a1))) else (some false))) = some r := h
  clear h
  replace H := Option.bind_eq_some_iff.mp H
  obtain ⟨t172, A30, H⟩ := H
  replace H : (if t172 = true then ((ucs_Split.f a0).bind fun bt173 => (if bt173.2.2 = true then ((ucs_Join.f bt173.1 bt173.2.1).bind fun bt176 => (if bt176.2 = true then (if bt176.1 = a0 then ((ucs_High.f bt173.1).bind fun t178 => (if t178 = true then ((ucs_Low.f bt173.2.1).bind fun t179 => (if t179 = true then ((ucs_Plane.f a0).bind fun t180 => (if t180 < 1 then (some false) else (dragomanlaw01_UcsBack.j0 k a0 a1))) else (some false))) else (some false))) else (some false)) else (some false))) else (dragomanlaw01_UcsBack.j0 k a0 a1))) else (some false)) = some r := H
  have A3 := Aside0.mk A30
  clear A30
  by_cases c4 : t172 = true
  · subst c4
    have H1 : ((ucs_Split.f a0).bind fun bt173 => (if bt173.2.2 = true then ((ucs_Join.f bt173.1 bt173.2.1).bind fun bt176 => (if bt176.2 = true then (if bt176.1 = a0 then ((ucs_High.f bt173.1).bind fun t178 => (if t178 = true then ((ucs_Low.f bt173.2.1).bind fun t179 => (if t179 = true then ((ucs_Plane.f a0).bind fun t180 => (if t180 < 1 then (some false) else (dragomanlaw01_UcsBack.j0 k a0 a1))) else (some false))) else (some false))) else (some false)) else (some false))) else (dragomanlaw01_UcsBack.j0 k a0 a1))) = some r := by rw [if_pos rfl] at H; exact H
    clear H
    have H := H1
    clear H1
    replace H := Option.bind_eq_some_iff.mp H
    obtain ⟨⟨t173, t174, t175⟩, A50, H⟩ := H
    replace H : (if t175 = true then ((ucs_Join.f t173 t174).bind fun bt176 => (if bt176.2 = true then (if bt176.1 = a0 then ((ucs_High.f t173).bind fun t178 => (if t178 = true then ((ucs_Low.f t174).bind fun t179 => (if t179 = true then ((ucs_Plane.f a0).bind fun t180 => (if t180 < 1 then (some false) else (dragomanlaw01_UcsBack.j0 k a0 a1))) else (some false))) else (some false))) else (some false)) else (some false))) else (dragomanlaw01_UcsBack.j0 k a0 a1)) = some r := H
    have A5 := Aside0.mk A50
    clear A50
    have HC6 := Aside0.mk H
    clear H
    go_enter Tryd.func4, Tryd.ntmps4
    go_upto_if 27 with (first | ((with_reducible refine gate_callee (f := 14) rfl ?_); refine goesL_ (some 19) rfl rfl Tryd.func14 (by kernel_rfl) rfl #[] rfl (by (try simp only [List.map_toArray, List.map_cons, List.map_nil]); first | done | rfl | (simp only [List.length_drop, List.length_take]; rfl)) ?_; (with_reducible refine (dragomanlaw01_works.calls k  true _ A3.out (by first | exact hT | exact Uc.Tab.below hT (by repeat (first | (with_reducible first | exact HB.out | exact Below.refl _ _ | apply below_alloc | apply pw_below_drewN | apply below_drew1) | exact HB.out)))).mono ?_); rintro e w7 ⟨rfl, hb⟩; refine ⟨_, rfl, ?_⟩; have n0_ := Aside0.mk (below_step (by repeat (first | (with_reducible first | exact HB.out | apply below_alloc | apply pw_below_drewN | apply below_drew1) | exact HB.out)) hb); clear HB; have HB := n0_; clear n0_; (try clear hb); (try clear hb2); (try clear hk); (try clear hi)) | ((with_reducible refine gate_callee (f := 10) rfl ?_); refine goesL_ (some 23) rfl rfl Tryd.func10 (by kernel_rfl) rfl #[.int .i32 a0] rfl (by (try simp only [List.map_toArray, List.map_cons, List.map_nil]); first | done | rfl | (simp only [List.length_drop, List.length_take]; rfl)) ?_; (with_reducible refine (ucs_Split.calls a0 t173 t174 t175 _ A5.out).mono ?_); rintro e w' ⟨rfl, ⟨nd, rfl⟩⟩; refine ⟨_, rfl, ?_⟩))
    (try simp only [Act.put, List.setIfInBounds_toArray, List.set_cons_zero, List.set_cons_succ])
    go_cut [] (fun wc => ∃ (kq : Nat), Aside0 (dragomanlaw01_UcsBack.j0 kq a0 a1 = some r) ∧ Aside0 (kq ≤ k) ∧ Aside0 (Below w.heap.size w wc))
    case first =>
      have H := HC6.out
      clear HC6
      by_cases c8 : t175 = true
      · subst c8
        have H1 : ((ucs_Join.f t173 t174).bind fun bt176 => (if bt176.2 = true then (if bt176.1 = a0 then ((ucs_High.f t173).bind fun t178 => (if t178 = true then ((ucs_Low.f t174).bind fun t179 => (if t179 = true then ((ucs_Plane.f a0).bind fun t180 => (if t180 < 1 then (some false) else (dragomanlaw01_UcsBack.j0 k a0 a1))) else (some false))) else (some false))) else (some false)) else (some false))) = some r := by rw [if_pos rfl] at H; exact H
        clear H
        have H := H1
        clear H1
        replace H := Option.bind_eq_some_iff.mp H
        obtain ⟨⟨t176, t177⟩, A90, H⟩ := H
        replace H : (if t177 = true then (if t176 = a0 then ((ucs_High.f t173).bind fun t178 => (if t178 = true then ((ucs_Low.f t174).bind fun t179 => (if t179 = true then ((ucs_Plane.f a0).bind fun t180 => (if t180 < 1 then (some false) else (dragomanlaw01_UcsBack.j0 k a0 a1))) else (some false))) else (some false))) else (some false)) else (some false)) = some r := H
        have A9 := Aside0.mk A90
        clear A90
        by_cases c10 : t177 = true
        · subst c10
          have H1 : (if t176 = a0 then ((ucs_High.f t173).bind fun t178 => (if t178 = true then ((ucs_Low.f t174).bind fun t179 => (if t179 = true then ((ucs_Plane.f a0).bind fun t180 => (if t180 < 1 then (some false) else (dragomanlaw01_UcsBack.j0 k a0 a1))) else (some false))) else (some false))) else (some false)) = some r := by rw [if_pos rfl] at H; exact H
          clear H
          have H := H1
          clear H1
          by_cases c11 : t176 = a0
          · rw [if_pos c11] at H
            have c11b0 : (t176 == a0) = true := beq_iff_eq.mpr c11
            have c11b1 : (t176 != a0) = false := bne_eq_false_iff_eq.mpr c11
            clear c11
            (first | rw [c11b0] | (simp only [i64_w, i32_w]; rw [c11b0]) | skip)
            replace H := Option.bind_eq_some_iff.mp H
            obtain ⟨t178, A120, H⟩ := H
            replace H : (if t178 = true then ((ucs_Low.f t174).bind fun t179 => (if t179 = true then ((ucs_Plane.f a0).bind fun t180 => (if t180 < 1 then (some false) else (dragomanlaw01_UcsBack.j0 k a0 a1))) else (some false))) else (some false)) = some r := H
            have A12 := Aside0.mk A120
            clear A120
            by_cases c13 : t178 = true
            · subst c13
              have H1 : ((ucs_Low.f t174).bind fun t179 => (if t179 = true then ((ucs_Plane.f a0).bind fun t180 => (if t180 < 1 then (some false) else (dragomanlaw01_UcsBack.j0 k a0 a1))) else (some false))) = some r := by rw [if_pos rfl] at H; exact H
              clear H
              have H := H1
              clear H1
              replace H := Option.bind_eq_some_iff.mp H
              obtain ⟨t179, A140, H⟩ := H
              replace H : (if t179 = true then ((ucs_Plane.f a0).bind fun t180 => (if t180 < 1 then (some false) else (dragomanlaw01_UcsBack.j0 k a0 a1))) else (some false)) = some r := H
              have A14 := Aside0.mk A140
              clear A140
              by_cases c15 : t179 = true
              · subst c15
                have H1 : ((ucs_Plane.f a0).bind fun t180 => (if t180 < 1 then (some false) else (dragomanlaw01_UcsBack.j0 k a0 a1))) = some r := by rw [if_pos rfl] at H; exact H
                clear H
                have H := H1
                clear H1
                replace H := Option.bind_eq_some_iff.mp H
                obtain ⟨t180, A160, H⟩ := H
                replace H : (if t180 < 1 then (some false) else (dragomanlaw01_UcsBack.j0 k a0 a1)) = some r := H
                have A16 := Aside0.mk A160
                clear A160
                by_cases c17 : t180 < 1
                · rw [if_pos c17] at H
                  have c17b0 : decide (t180 < 1) = true := decide_eq_true c17
                  clear c17
                  obtain rfl := Option.some.inj H
                  go_wp2_with (first | ((with_reducible refine gate_callee (f := 8) rfl ?_); refine goesL_ (some 31) rfl rfl Tryd.func8 (by kernel_rfl) rfl #[.int .i32 t173, .int .i32 t174] rfl (by (try simp only [List.map_toArray, List.map_cons, List.map_nil]); first | done | rfl | (simp only [List.length_drop, List.length_take]; rfl)) ?_; (with_reducible refine (ucs_Join.calls t173 t174 t176 true _ A9.out).mono ?_); rintro e w' ⟨rfl, ⟨nd, rfl⟩⟩; refine ⟨_, rfl, ?_⟩) | (go_at_call 15; (with_reducible refine (ucs_High.calls t173 true _ A12.out).mono ?_); rintro e w' ⟨rfl, ⟨nd, rfl⟩⟩) | (go_at_call 16; (with_reducible refine (ucs_Low.calls t174 true _ A14.out).mono ?_); rintro e w' ⟨rfl, ⟨nd, rfl⟩⟩) | (go_at_call 17; (with_reducible refine (ucs_Plane.calls a0 t180 _ A16.out).mono ?_); rintro e w' ⟨rfl, ⟨nd, rfl⟩⟩))
                  go_ret
                  exact ⟨by first | rfl | (simp [errW_none, errW_some] <;> rfl) | (simp [*, errW_none, errW_some] <;> rfl), by repeat (first | (with_reducible first | exact HB.out | apply below_alloc | apply pw_below_drewN | apply below_drew1) | exact HB.out)⟩
                · rw [if_neg c17] at H
                  have c17b0 : decide (t180 < 1) = false := decide_eq_false c17
                  clear c17
                  have H' := Aside0.mk H
                  clear H
                  go_wp2_with (first | ((with_reducible refine gate_callee (f := 8) rfl ?_); refine goesL_ (some 31) rfl rfl Tryd.func8 (by kernel_rfl) rfl #[.int .i32 t173, .int .i32 t174] rfl (by (try simp only [List.map_toArray, List.map_cons, List.map_nil]); first | done | rfl | (simp only [List.length_drop, List.length_take]; rfl)) ?_; (with_reducible refine (ucs_Join.calls t173 t174 t176 true _ A9.out).mono ?_); rintro e w' ⟨rfl, ⟨nd, rfl⟩⟩; refine ⟨_, rfl, ?_⟩) | (go_at_call 15; (with_reducible refine (ucs_High.calls t173 true _ A12.out).mono ?_); rintro e w' ⟨rfl, ⟨nd, rfl⟩⟩) | (go_at_call 16; (with_reducible refine (ucs_Low.calls t174 true _ A14.out).mono ?_); rintro e w' ⟨rfl, ⟨nd, rfl⟩⟩) | (go_at_call 17; (with_reducible refine (ucs_Plane.calls a0 t180 _ A16.out).mono ?_); rintro e w' ⟨rfl, ⟨nd, rfl⟩⟩))
                  go_meet
                  case rel => exact ⟨_, H', ⟨by first | omega | exact Nat.le_refl _⟩, ⟨by repeat (first | (with_reducible first | exact HB.out | apply below_alloc | apply pw_below_drewN | apply below_drew1) | exact HB.out)⟩⟩
              · replace c15 := Bool.eq_false_iff.mpr c15
                subst c15
                have H1 : (some false) = some r := by rw [if_neg (show ¬ (false = true) by decide)] at H; exact H
                clear H
                have H := H1
                clear H1
                obtain rfl := Option.some.inj H
                go_wp2_with (first | ((with_reducible refine gate_callee (f := 8) rfl ?_); refine goesL_ (some 31) rfl rfl Tryd.func8 (by kernel_rfl) rfl #[.int .i32 t173, .int .i32 t174] rfl (by (try simp only [List.map_toArray, List.map_cons, List.map_nil]); first | done | rfl | (simp only [List.length_drop, List.length_take]; rfl)) ?_; (with_reducible refine (ucs_Join.calls t173 t174 t176 true _ A9.out).mono ?_); rintro e w' ⟨rfl, ⟨nd, rfl⟩⟩; refine ⟨_, rfl, ?_⟩) | (go_at_call 15; (with_reducible refine (ucs_High.calls t173 true _ A12.out).mono ?_); rintro e w' ⟨rfl, ⟨nd, rfl⟩⟩) | (go_at_call 16; (with_reducible refine (ucs_Low.calls t174 false _ A14.out).mono ?_); rintro e w' ⟨rfl, ⟨nd, rfl⟩⟩))
                go_ret
                exact ⟨by first | rfl | (simp [errW_none, errW_some] <;> rfl) | (simp [*, errW_none, errW_some] <;> rfl), by repeat (first | (with_reducible first | exact HB.out | apply below_alloc | apply pw_below_drewN | apply below_drew1) | exact HB.out)⟩
            · replace c13 := Bool.eq_false_iff.mpr c13
              subst c13
              have H1 : (some false) = some r := by rw [if_neg (show ¬ (false = true) by decide)] at H; exact H
              clear H
              have H := H1
              clear H1
              obtain rfl := Option.some.inj H
              go_wp2_with (first | ((with_reducible refine gate_callee (f := 8) rfl ?_); refine goesL_ (some 31) rfl rfl Tryd.func8 (by kernel_rfl) rfl #[.int .i32 t173, .int .i32 t174] rfl (by (try simp only [List.map_toArray, List.map_cons, List.map_nil]); first | done | rfl | (simp only [List.length_drop, List.length_take]; rfl)) ?_; (with_reducible refine (ucs_Join.calls t173 t174 t176 true _ A9.out).mono ?_); rintro e w' ⟨rfl, ⟨nd, rfl⟩⟩; refine ⟨_, rfl, ?_⟩) | (go_at_call 15; (with_reducible refine (ucs_High.calls t173 false _ A12.out).mono ?_); rintro e w' ⟨rfl, ⟨nd, rfl⟩⟩))
              go_ret
              exact ⟨by first | rfl | (simp [errW_none, errW_some] <;> rfl) | (simp [*, errW_none, errW_some] <;> rfl), by repeat (first | (with_reducible first | exact HB.out | apply below_alloc | apply pw_below_drewN | apply below_drew1) | exact HB.out)⟩
          · rw [if_neg c11] at H
            have c11b0 : (t176 == a0) = false := beq_eq_false_iff_ne.mpr c11
            have c11b1 : (t176 != a0) = true := bne_iff_ne.mpr c11
            (first | rw [c11b0] | (simp only [i64_w, i32_w]; rw [c11b0]) | skip)
            obtain rfl := Option.some.inj H
            go_wp2_with (first | ((with_reducible refine gate_callee (f := 8) rfl ?_); refine goesL_ (some 31) rfl rfl Tryd.func8 (by kernel_rfl) rfl #[.int .i32 t173, .int .i32 t174] rfl (by (try simp only [List.map_toArray, List.map_cons, List.map_nil]); first | done | rfl | (simp only [List.length_drop, List.length_take]; rfl)) ?_; (with_reducible refine (ucs_Join.calls t173 t174 t176 true _ A9.out).mono ?_); rintro e w' ⟨rfl, ⟨nd, rfl⟩⟩; refine ⟨_, rfl, ?_⟩))
            go_ret
            exact ⟨by first | rfl | (simp [errW_none, errW_some] <;> rfl) | (simp [*, errW_none, errW_some] <;> rfl), by repeat (first | (with_reducible first | exact HB.out | apply below_alloc | apply pw_below_drewN | apply below_drew1) | exact HB.out)⟩
        · replace c10 := Bool.eq_false_iff.mpr c10
          subst c10
          have H1 : (some false) = some r := by rw [if_neg (show ¬ (false = true) by decide)] at H; exact H
          clear H
          have H := H1
          clear H1
          obtain rfl := Option.some.inj H
          go_wp2_with (first | ((with_reducible refine gate_callee (f := 8) rfl ?_); refine goesL_ (some 31) rfl rfl Tryd.func8 (by kernel_rfl) rfl #[.int .i32 t173, .int .i32 t174] rfl (by (try simp only [List.map_toArray, List.map_cons, List.map_nil]); first | done | rfl | (simp only [List.length_drop, List.length_take]; rfl)) ?_; (with_reducible refine (ucs_Join.calls t173 t174 t176 false _ A9.out).mono ?_); rintro e w' ⟨rfl, ⟨nd, rfl⟩⟩; refine ⟨_, rfl, ?_⟩))
          go_ret
          exact ⟨by first | rfl | (simp [errW_none, errW_some] <;> rfl) | (simp [*, errW_none, errW_some] <;> rfl), by repeat (first | (with_reducible first | exact HB.out | apply below_alloc | apply pw_below_drewN | apply below_drew1) | exact HB.out)⟩
      · replace c8 := Bool.eq_false_iff.mpr c8
        subst c8
        have H1 : (dragomanlaw01_UcsBack.j0 k a0 a1) = some r := by rw [if_neg (show ¬ (false = true) by decide)] at H; exact H
        clear H
        have H := H1
        clear H1
        have H' := Aside0.mk H
        clear H
        go_wp2
        go_meet
        case rel => exact ⟨_, H', ⟨by first | omega | exact Nat.le_refl _⟩, ⟨by repeat (first | (with_reducible first | exact HB.out | apply below_alloc | apply pw_below_drewN | apply below_drew1) | exact HB.out)⟩⟩
    case rest =>
      clear HC6
      try clear c1
      try clear p2
      try clear c4
      try clear c8
      try clear c10
      try clear c11
      try clear c11b0
      try clear c11b1
      try clear c13
      try clear c14
      try clear c15
      try clear c17
      try clear c17b0
      obtain ⟨kq, HA, HJ5, HB⟩ := hcut
      cases kq with
      | zero => exact absurd HA.out (by simp [dragomanlaw01_UcsBack.j0])
      | succ kj5 =>
        have H := HA.out
        clear HA
        simp only [dragomanlaw01_UcsBack.j0] at H
        replace H := Option.bind_eq_some_iff.mp H
        obtain ⟨⟨t181, t182⟩, A180, H⟩ := H
        replace H : (if t182 = true then ((ucs_Split.f t181).bind fun bt183 => (if bt183.2.2 = true then (if bt183.1 = a0 then (if bt183.2.1 = a1 then ((ucs_Scalar.f t181).bind fun t186 => (if t186 = true then (dragomanlaw01_UcsBack.j1 kj5 a0) else (some false))) else (some false)) else (some false)) else (some false))) else (dragomanlaw01_UcsBack.j1 kj5 a0)) = some r := H
        have A18 := Aside0.mk A180
        clear A180
        have HC19 := Aside0.mk H
        clear H
        go_upto_if 62 with (first | ((with_reducible refine gate_callee (f := 8) rfl ?_); refine goesL_ (some 59) rfl rfl Tryd.func8 (by kernel_rfl) rfl #[.int .i32 a0, .int .i32 a1] rfl (by (try simp only [List.map_toArray, List.map_cons, List.map_nil]); first | done | rfl | (simp only [List.length_drop, List.length_take]; rfl)) ?_; (with_reducible refine (ucs_Join.calls a0 a1 t181 t182 _ A18.out).mono ?_); rintro e w' ⟨rfl, ⟨nd, rfl⟩⟩; refine ⟨_, rfl, ?_⟩))
        (try simp only [Act.put, List.setIfInBounds_toArray, List.set_cons_zero, List.set_cons_succ])
        go_cut [] (fun wc => ∃ (kq : Nat), Aside0 (dragomanlaw01_UcsBack.j1 kq a0 = some r) ∧ Aside0 (kq ≤ kj5) ∧ Aside0 (Below w.heap.size w wc))
        case first =>
          have H := HC19.out
          clear HC19
          by_cases c20 : t182 = true
          · subst c20
            have H1 : ((ucs_Split.f t181).bind fun bt183 => (if bt183.2.2 = true then (if bt183.1 = a0 then (if bt183.2.1 = a1 then ((ucs_Scalar.f t181).bind fun t186 => (if t186 = true then (dragomanlaw01_UcsBack.j1 kj5 a0) else (some false))) else (some false)) else (some false)) else (some false))) = some r := by rw [if_pos rfl] at H; exact H
            clear H
            have H := H1
            clear H1
            replace H := Option.bind_eq_some_iff.mp H
            obtain ⟨⟨t183, t184, t185⟩, A210, H⟩ := H
            replace H : (if t185 = true then (if t183 = a0 then (if t184 = a1 then ((ucs_Scalar.f t181).bind fun t186 => (if t186 = true then (dragomanlaw01_UcsBack.j1 kj5 a0) else (some false))) else (some false)) else (some false)) else (some false)) = some r := H
            have A21 := Aside0.mk A210
            clear A210
            by_cases c22 : t185 = true
            · subst c22
              have H1 : (if t183 = a0 then (if t184 = a1 then ((ucs_Scalar.f t181).bind fun t186 => (if t186 = true then (dragomanlaw01_UcsBack.j1 kj5 a0) else (some false))) else (some false)) else (some false)) = some r := by rw [if_pos rfl] at H; exact H
              clear H
              have H := H1
              clear H1
              by_cases c23 : t183 = a0
              · rw [if_pos c23] at H
                have c23b0 : (t183 == a0) = true := beq_iff_eq.mpr c23
                have c23b1 : (t183 != a0) = false := bne_eq_false_iff_eq.mpr c23
                clear c23
                (first | rw [c23b0] | (simp only [i64_w, i32_w]; rw [c23b0]) | skip)
                by_cases c24 : t184 = a1
                · rw [if_pos c24] at H
                  have c24b0 : (t184 == a1) = true := beq_iff_eq.mpr c24
                  have c24b1 : (t184 != a1) = false := bne_eq_false_iff_eq.mpr c24
                  clear c24
                  replace H := Option.bind_eq_some_iff.mp H
                  obtain ⟨t186, A250, H⟩ := H
                  replace H : (if t186 = true then (dragomanlaw01_UcsBack.j1 kj5 a0) else (some false)) = some r := H
                  have A25 := Aside0.mk A250
                  clear A250
                  by_cases c26 : t186 = true
                  · subst c26
                    have H1 : (dragomanlaw01_UcsBack.j1 kj5 a0) = some r := by rw [if_pos rfl] at H; exact H
                    clear H
                    have H := H1
                    clear H1
                    have H' := Aside0.mk H
                    clear H
                    go_wp2_with (first | ((with_reducible refine gate_callee (f := 10) rfl ?_); refine goesL_ (some 65) rfl rfl Tryd.func10 (by kernel_rfl) rfl #[.int .i32 t181] rfl (by (try simp only [List.map_toArray, List.map_cons, List.map_nil]); first | done | rfl | (simp only [List.length_drop, List.length_take]; rfl)) ?_; (with_reducible refine (ucs_Split.calls t181 t183 t184 true _ A21.out).mono ?_); rintro e w' ⟨rfl, ⟨nd, rfl⟩⟩; refine ⟨_, rfl, ?_⟩) | (go_at_call 18; (with_reducible refine (ucs_Scalar.calls t181 true _ A25.out).mono ?_); rintro e w' ⟨rfl, ⟨nd, rfl⟩⟩))
                    go_meet
                    case rel => exact ⟨_, H', ⟨by have := HJ5.out; first | omega | exact Nat.le_refl _⟩, ⟨by repeat (first | (with_reducible first | exact HB.out | apply below_alloc | apply pw_below_drewN | apply below_drew1) | exact HB.out)⟩⟩
                  · replace c26 := Bool.eq_false_iff.mpr c26
                    subst c26
                    have H1 : (some false) = some r := by rw [if_neg (show ¬ (false = true) by decide)] at H; exact H
                    clear H
                    have H := H1
                    clear H1
                    obtain rfl := Option.some.inj H
                    go_wp2_with (first | ((with_reducible refine gate_callee (f := 10) rfl ?_); refine goesL_ (some 65) rfl rfl Tryd.func10 (by kernel_rfl) rfl #[.int .i32 t181] rfl (by (try simp only [List.map_toArray, List.map_cons, List.map_nil]); first | done | rfl | (simp only [List.length_drop, List.length_take]; rfl)) ?_; (with_reducible refine (ucs_Split.calls t181 t183 t184 true _ A21.out).mono ?_); rintro e w' ⟨rfl, ⟨nd, rfl⟩⟩; refine ⟨_, rfl, ?_⟩) | (go_at_call 18; (with_reducible refine (ucs_Scalar.calls t181 false _ A25.out).mono ?_); rintro e w' ⟨rfl, ⟨nd, rfl⟩⟩))
                    go_ret
                    exact ⟨by first | rfl | (simp [errW_none, errW_some] <;> rfl) | (simp [*, errW_none, errW_some] <;> rfl), by repeat (first | (with_reducible first | exact HB.out | apply below_alloc | apply pw_below_drewN | apply below_drew1) | exact HB.out)⟩
                · rw [if_neg c24] at H
                  have c24b0 : (t184 == a1) = false := beq_eq_false_iff_ne.mpr c24
                  have c24b1 : (t184 != a1) = true := bne_iff_ne.mpr c24
                  obtain rfl := Option.some.inj H
                  go_wp2_with (first | ((with_reducible refine gate_callee (f := 10) rfl ?_); refine goesL_ (some 65) rfl rfl Tryd.func10 (by kernel_rfl) rfl #[.int .i32 t181] rfl (by (try simp only [List.map_toArray, List.map_cons, List.map_nil]); first | done | rfl | (simp only [List.length_drop, List.length_take]; rfl)) ?_; (with_reducible refine (ucs_Split.calls t181 t183 t184 true _ A21.out).mono ?_); rintro e w' ⟨rfl, ⟨nd, rfl⟩⟩; refine ⟨_, rfl, ?_⟩))
                  go_ret
                  exact ⟨by first | rfl | (simp [errW_none, errW_some] <;> rfl) | (simp [*, errW_none, errW_some] <;> rfl), by repeat (first | (with_reducible first | exact HB.out | apply below_alloc | apply pw_below_drewN | apply below_drew1) | exact HB.out)⟩
              · rw [if_neg c23] at H
                have c23b0 : (t183 == a0) = false := beq_eq_false_iff_ne.mpr c23
                have c23b1 : (t183 != a0) = true := bne_iff_ne.mpr c23
                (first | rw [c23b0] | (simp only [i64_w, i32_w]; rw [c23b0]) | skip)
                obtain rfl := Option.some.inj H
                go_wp2_with (first | ((with_reducible refine gate_callee (f := 10) rfl ?_); refine goesL_ (some 65) rfl rfl Tryd.func10 (by kernel_rfl) rfl #[.int .i32 t181] rfl (by (try simp only [List.map_toArray, List.map_cons, List.map_nil]); first | done | rfl | (simp only [List.length_drop, List.length_take]; rfl)) ?_; (with_reducible refine (ucs_Split.calls t181 t183 t184 true _ A21.out).mono ?_); rintro e w' ⟨rfl, ⟨nd, rfl⟩⟩; refine ⟨_, rfl, ?_⟩))
                go_ret
                exact ⟨by first | rfl | (simp [errW_none, errW_some] <;> rfl) | (simp [*, errW_none, errW_some] <;> rfl), by repeat (first | (with_reducible first | exact HB.out | apply below_alloc | apply pw_below_drewN | apply below_drew1) | exact HB.out)⟩
            · replace c22 := Bool.eq_false_iff.mpr c22
              subst c22
              have H1 : (some false) = some r := by rw [if_neg (show ¬ (false = true) by decide)] at H; exact H
              clear H
              have H := H1
              clear H1
              obtain rfl := Option.some.inj H
              go_wp2_with (first | ((with_reducible refine gate_callee (f := 10) rfl ?_); refine goesL_ (some 65) rfl rfl Tryd.func10 (by kernel_rfl) rfl #[.int .i32 t181] rfl (by (try simp only [List.map_toArray, List.map_cons, List.map_nil]); first | done | rfl | (simp only [List.length_drop, List.length_take]; rfl)) ?_; (with_reducible refine (ucs_Split.calls t181 t183 t184 false _ A21.out).mono ?_); rintro e w' ⟨rfl, ⟨nd, rfl⟩⟩; refine ⟨_, rfl, ?_⟩))
              go_ret
              exact ⟨by first | rfl | (simp [errW_none, errW_some] <;> rfl) | (simp [*, errW_none, errW_some] <;> rfl), by repeat (first | (with_reducible first | exact HB.out | apply below_alloc | apply pw_below_drewN | apply below_drew1) | exact HB.out)⟩
          · replace c20 := Bool.eq_false_iff.mpr c20
            subst c20
            have H1 : (dragomanlaw01_UcsBack.j1 kj5 a0) = some r := by rw [if_neg (show ¬ (false = true) by decide)] at H; exact H
            clear H
            have H := H1
            clear H1
            have H' := Aside0.mk H
            clear H
            go_wp2
            go_meet
            case rel => exact ⟨_, H', ⟨by have := HJ5.out; first | omega | exact Nat.le_refl _⟩, ⟨by repeat (first | (with_reducible first | exact HB.out | apply below_alloc | apply pw_below_drewN | apply below_drew1) | exact HB.out)⟩⟩
        case rest =>
          clear HC19
          try clear c1
          try clear c2
          try clear p2
          try clear c4
          try clear c8
          try clear c10
          try clear c11
          try clear c11b0
          try clear c11b1
          try clear c13
          try clear c14
          try clear c15
          try clear c17
          try clear c17b0
          try clear c20
          try clear c22
          try clear c23
          try clear c23b0
          try clear c23b1
          try clear c24
          try clear c24b0
          try clear c24b1
          try clear c26
          try clear p2
          obtain ⟨kq, HA, HJ18, HB⟩ := hcut
          cases kq with
          | zero => exact absurd HA.out (by simp [dragomanlaw01_UcsBack.j1])
          | succ kj18 =>
            have H := HA.out
            clear HA
            simp only [dragomanlaw01_UcsBack.j1] at H
            replace H := Option.bind_eq_some_iff.mp H
            obtain ⟨t187, A270, H⟩ := H
            replace H : ((ucs_Parse.f kj18 t187).bind fun bt188 => ((ucs_Scalar.f a0).bind fun t190 => (if t190 = true then (dragomanlaw01_UcsBack.j2 kj18 a0 t187 bt188.1 bt188.2 (0 + 1)) else (dragomanlaw01_UcsBack.j2 kj18 a0 t187 bt188.1 bt188.2 0)))) = some r := H
            have A27 := Aside0.mk A270
            clear A270
            replace H := Option.bind_eq_some_iff.mp H
            obtain ⟨⟨t188, t189⟩, A280, H⟩ := H
            replace H : ((ucs_Scalar.f a0).bind fun t190 => (if t190 = true then (dragomanlaw01_UcsBack.j2 kj18 a0 t187 t188 t189 (0 + 1)) else (dragomanlaw01_UcsBack.j2 kj18 a0 t187 t188 t189 0))) = some r := H
            have A28 := Aside0.mk A280
            clear A280
            replace H := Option.bind_eq_some_iff.mp H
            obtain ⟨t190, A290, H⟩ := H
            replace H : (if t190 = true then (dragomanlaw01_UcsBack.j2 kj18 a0 t187 t188 t189 (0 + 1)) else (dragomanlaw01_UcsBack.j2 kj18 a0 t187 t188 t189 0)) = some r := H
            have A29 := Aside0.mk A290
            clear A290
            have HC30 := Aside0.mk H
            clear H
            go_upto_if 94 with (first | ((with_reducible refine gate_callee (f := 19) rfl ?_); refine goesL_ (some 87) rfl rfl Tryd.func19 (by kernel_rfl) rfl #[.int .i32 a0] rfl (by (try simp only [List.map_toArray, List.map_cons, List.map_nil]); first | done | rfl | (simp only [List.length_drop, List.length_take]; rfl)) ?_; (with_reducible refine (ucs_Hex.calls kj18 a0 t187 _ A27.out (by first | exact hT | exact Uc.Tab.below hT (by repeat (first | (with_reducible first | exact HB.out | exact Below.refl _ _ | apply below_alloc | apply pw_below_drewN | apply below_drew1) | exact HB.out)))).mono ?_); rintro e w31 ⟨rfl, hb⟩; refine ⟨_, rfl, ?_⟩; have n0_ := Aside0.mk (below_step (by repeat (first | (with_reducible first | exact HB.out | apply below_alloc | apply pw_below_drewN | apply below_drew1) | exact HB.out)) hb); clear HB; have HB := n0_; clear n0_; (try clear hb); (try clear hb2); (try clear hk); (try clear hi)) | ((with_reducible refine gate_callee (f := 12) rfl ?_); refine goesL_ (some 90) rfl rfl Tryd.func12 (by kernel_rfl) rfl #[.string t187] rfl (by (try simp only [List.map_toArray, List.map_cons, List.map_nil]); first | done | rfl | (simp only [List.length_drop, List.length_take]; rfl)) ?_; (with_reducible refine (ucs_Parse.calls kj18 t187 t188 t189 _ A28.out (by first | exact hT | exact Uc.Tab.below hT (by repeat (first | (with_reducible first | exact HB.out | exact Below.refl _ _ | apply below_alloc | apply pw_below_drewN | apply below_drew1) | exact HB.out)))).mono ?_); rintro e w32 ⟨rfl, hb⟩; refine ⟨_, rfl, ?_⟩; have n0_ := Aside0.mk (below_step (by repeat (first | (with_reducible first | exact HB.out | apply below_alloc | apply pw_below_drewN | apply below_drew1) | exact HB.out)) hb); clear HB; have HB := n0_; clear n0_; (try clear hb); (try clear hb2); (try clear hk); (try clear hi)) | ((with_reducible refine gate_callee (f := 18) rfl ?_); refine goesL_ (some 94) rfl rfl Tryd.func18 (by kernel_rfl) rfl #[.int .i32 a0] rfl (by (try simp only [List.map_toArray, List.map_cons, List.map_nil]); first | done | rfl | (simp only [List.length_drop, List.length_take]; rfl)) ?_; (with_reducible refine (ucs_Scalar.calls a0 t190 _ A29.out).mono ?_); rintro e w' ⟨rfl, ⟨nd, rfl⟩⟩; refine ⟨_, rfl, ?_⟩))
            (try simp only [Act.put, List.setIfInBounds_toArray, List.set_cons_zero, List.set_cons_succ])
            go_cut [18] (fun v18 wc => ∃ (kq : Nat) (x18_29 : Int), v18 = .int .i64 x18_29 ∧ Aside0 (dragomanlaw01_UcsBack.j2 kq a0 t187 t188 t189 x18_29 = some r) ∧ Aside0 (kq ≤ kj18) ∧ Aside0 (Below w.heap.size w wc))
            case first =>
              have H := HC30.out
              clear HC30
              by_cases c33 : t190 = true
              · subst c33
                have H1 : (dragomanlaw01_UcsBack.j2 kj18 a0 t187 t188 t189 (0 + 1)) = some r := by rw [if_pos rfl] at H; exact H
                clear H
                have H := H1
                clear H1
                have H' := Aside0.mk H
                clear H
                go_wp2
                go_meet
                case rel => exact ⟨_, (0 + 1), (by first | rfl | (simp; done) | (simp [*]; done)), H', ⟨by have := HJ5.out; have := HJ18.out; first | omega | exact Nat.le_refl _⟩, ⟨by repeat (first | (with_reducible first | exact HB.out | apply below_alloc | apply pw_below_drewN | apply below_drew1) | exact HB.out)⟩⟩
              · replace c33 := Bool.eq_false_iff.mpr c33
                subst c33
                have H1 : (dragomanlaw01_UcsBack.j2 kj18 a0 t187 t188 t189 0) = some r := by rw [if_neg (show ¬ (false = true) by decide)] at H; exact H
                clear H
                have H := H1
                clear H1
                have H' := Aside0.mk H
                clear H
                go_wp2
                go_meet
                case rel => exact ⟨_, (0), (by first | rfl | (simp; done) | (simp [*]; done)), H', ⟨by have := HJ5.out; have := HJ18.out; first | omega | exact Nat.le_refl _⟩, ⟨by repeat (first | (with_reducible first | exact HB.out | apply below_alloc | apply pw_below_drewN | apply below_drew1) | exact HB.out)⟩⟩
            case rest =>
              clear HC30
              try clear c1
              try clear c2
              try clear p2
              try clear c3
              try clear c4
              try clear c8
              try clear c10
              try clear c11
              try clear c11b0
              try clear c11b1
              try clear c12
              try clear c13
              try clear c14
              try clear c15
              try clear c17
              try clear c17b0
              try clear c18
              try clear c19
              try clear c20
              try clear c22
              try clear c23
              try clear c23b0
              try clear c23b1
              try clear c24
              try clear c24b0
              try clear c24b1
              try clear c26
              try clear c33
              try clear p2
              obtain ⟨kq, x18_29, rfl, HA, HJ29, HB⟩ := hcut
              cases kq with
              | zero => exact absurd HA.out (by simp [dragomanlaw01_UcsBack.j2])
              | succ kj29 =>
                have H := HA.out
                clear HA
                simp only [dragomanlaw01_UcsBack.j2] at H
                replace H := Option.bind_eq_some_iff.mp H
                obtain ⟨t191, A340, H⟩ := H
                replace H : (if t191 = true then (dragomanlaw01_UcsBack.j3 kj29 a0 t187 t188 t189 (wrap64 (x18_29 + 1))) else (dragomanlaw01_UcsBack.j3 kj29 a0 t187 t188 t189 x18_29)) = some r := H
                have A34 := Aside0.mk A340
                clear A340
                have HC35 := Aside0.mk H
                clear H
                go_upto_if 98 with (first | ((with_reducible refine gate_callee (f := 15) rfl ?_); refine goesL_ (some 98) rfl rfl Tryd.func15 (by kernel_rfl) rfl #[.int .i32 a0] rfl (by (try simp only [List.map_toArray, List.map_cons, List.map_nil]); first | done | rfl | (simp only [List.length_drop, List.length_take]; rfl)) ?_; (with_reducible refine (ucs_High.calls a0 t191 _ A34.out).mono ?_); rintro e w' ⟨rfl, ⟨nd, rfl⟩⟩; refine ⟨_, rfl, ?_⟩))
                (try simp only [Act.put, List.setIfInBounds_toArray, List.set_cons_zero, List.set_cons_succ])
                go_cut [18] (fun v18 wc => ∃ (kq : Nat) (x18_34 : Int), v18 = .int .i64 x18_34 ∧ Aside0 (dragomanlaw01_UcsBack.j3 kq a0 t187 t188 t189 x18_34 = some r) ∧ Aside0 (kq ≤ kj29) ∧ Aside0 (Below w.heap.size w wc))
                case first =>
                  have H := HC35.out
                  clear HC35
                  by_cases c36 : t191 = true
                  · subst c36
                    have H1 : (dragomanlaw01_UcsBack.j3 kj29 a0 t187 t188 t189 (wrap64 (x18_29 + 1))) = some r := by rw [if_pos rfl] at H; exact H
                    clear H
                    have H := H1
                    clear H1
                    have H' := Aside0.mk H
                    clear H
                    go_wp2
                    go_meet
                    case rel => exact ⟨_, (wrap64 (x18_29 + 1)), (by first | rfl | (simp; done) | (simp [*]; done)), H', ⟨by have := HJ5.out; have := HJ18.out; have := HJ29.out; first | omega | exact Nat.le_refl _⟩, ⟨by repeat (first | (with_reducible first | exact HB.out | apply below_alloc | apply pw_below_drewN | apply below_drew1) | exact HB.out)⟩⟩
                  · replace c36 := Bool.eq_false_iff.mpr c36
                    subst c36
                    have H1 : (dragomanlaw01_UcsBack.j3 kj29 a0 t187 t188 t189 x18_29) = some r := by rw [if_neg (show ¬ (false = true) by decide)] at H; exact H
                    clear H
                    have H := H1
                    clear H1
                    have H' := Aside0.mk H
                    clear H
                    go_wp2
                    go_meet
                    case rel => exact ⟨_, (x18_29), (by first | rfl | (simp; done) | (simp [*]; done)), H', ⟨by have := HJ5.out; have := HJ18.out; have := HJ29.out; first | omega | exact Nat.le_refl _⟩, ⟨by repeat (first | (with_reducible first | exact HB.out | apply below_alloc | apply pw_below_drewN | apply below_drew1) | exact HB.out)⟩⟩
                case rest =>
                  clear HC35
                  try clear c1
                  try clear c2
                  try clear p2
                  try clear c3
                  try clear c4
                  try clear p6
                  try clear c8
                  try clear c10
                  try clear c11
                  try clear c11b0
                  try clear c11b1
                  try clear c12
                  try clear c13
                  try clear c14
                  try clear c15
                  try clear c17
                  try clear c17b0
                  try clear c18
                  try clear c19
                  try clear c20
                  try clear c22
                  try clear c23
                  try clear c23b0
                  try clear c23b1
                  try clear c24
                  try clear c24b0
                  try clear c24b1
                  try clear c26
                  try clear c33
                  try clear c36
                  try clear p2
                  obtain ⟨kq, x18_34, rfl, HA, HJ34, HB⟩ := hcut
                  cases kq with
                  | zero => exact absurd HA.out (by simp [dragomanlaw01_UcsBack.j3])
                  | succ kj34 =>
                    have H := HA.out
                    clear HA
                    simp only [dragomanlaw01_UcsBack.j3] at H
                    replace H := Option.bind_eq_some_iff.mp H
                    obtain ⟨t192, A370, H⟩ := H
                    replace H : (if t192 = true then ((ucs_Scalar.f a0).bind fun t193 => (if (t189 == t193) = true then (if t189 = true then (if t188 = a0 then (if (t187.size : Int) ≥ 6 then (if (wrap64 (x18_34 + 1)) ≤ 1 then (if a0 ≥ 0 then (some (((wrap64 (x18_34 + 1)) == 1) == (decide (a0 ≤ 1114111)))) else (some (((wrap64 (x18_34 + 1)) == 1) == false))) else (some false)) else (some false)) else (some false)) else (if (wrap64 (x18_34 + 1)) ≤ 1 then (if a0 ≥ 0 then (some (((wrap64 (x18_34 + 1)) == 1) == (decide (a0 ≤ 1114111)))) else (some (((wrap64 (x18_34 + 1)) == 1) == false))) else (some false))) else (some false))) else ((ucs_Scalar.f a0).bind fun t194 => (if (t189 == t194) = true then (if t189 = true then (if t188 = a0 then (if (t187.size : Int) ≥ 6 then (if x18_34 ≤ 1 then (if a0 ≥ 0 then (some ((x18_34 == 1) == (decide (a0 ≤ 1114111)))) else (some ((x18_34 == 1) == false))) else (some false)) else (some false)) else (some false)) else (if x18_34 ≤ 1 then (if a0 ≥ 0 then (some ((x18_34 == 1) == (decide (a0 ≤ 1114111)))) else (some ((x18_34 == 1) == false))) else (some false))) else (some false)))) = some r := H
                    have A37 := Aside0.mk A370
                    clear A370
                    by_cases c38 : t192 = true
                    · subst c38
                      have H1 : ((ucs_Scalar.f a0).bind fun t193 => (if (t189 == t193) = true then (if t189 = true then (if t188 = a0 then (if (t187.size : Int) ≥ 6 then (if (wrap64 (x18_34 + 1)) ≤ 1 then (if a0 ≥ 0 then (some (((wrap64 (x18_34 + 1)) == 1) == (decide (a0 ≤ 1114111)))) else (some (((wrap64 (x18_34 + 1)) == 1) == false))) else (some false)) else (some false)) else (some false)) else (if (wrap64 (x18_34 + 1)) ≤ 1 then (if a0 ≥ 0 then (some (((wrap64 (x18_34 + 1)) == 1) == (decide (a0 ≤ 1114111)))) else (some (((wrap64 (x18_34 + 1)) == 1) == false))) else (some false))) else (some false))) = some r := by rw [if_pos rfl] at H; exact H
                      clear H
                      have H := H1
                      clear H1
                      replace H := Option.bind_eq_some_iff.mp H
                      obtain ⟨t193, A390, H⟩ := H
                      replace H : (if (t189 == t193) = true then (if t189 = true then (if t188 = a0 then (if (t187.size : Int) ≥ 6 then (if (wrap64 (x18_34 + 1)) ≤ 1 then (if a0 ≥ 0 then (some (((wrap64 (x18_34 + 1)) == 1) == (decide (a0 ≤ 1114111)))) else (some (((wrap64 (x18_34 + 1)) == 1) == false))) else (some false)) else (some false)) else (some false)) else (if (wrap64 (x18_34 + 1)) ≤ 1 then (if a0 ≥ 0 then (some (((wrap64 (x18_34 + 1)) == 1) == (decide (a0 ≤ 1114111)))) else (some (((wrap64 (x18_34 + 1)) == 1) == false))) else (some false))) else (some false)) = some r := H
                      have A39 := Aside0.mk A390
                      clear A390
                      by_cases c40 : (t189 == t193) = true
                      · rw [if_pos c40] at H
                        have c40b0 : (t189 == t193) = true := c40
                        (try (have c40b1 : decide (t189 = t193) = true := by simpa using c40))
                        (try (have c40b2 : (t189 == t193) = true := by simpa using c40))
                        clear c40
                        by_cases c41 : t189 = true
                        · subst c41
                          have H1 : (if t188 = a0 then (if (t187.size : Int) ≥ 6 then (if (wrap64 (x18_34 + 1)) ≤ 1 then (if a0 ≥ 0 then (some (((wrap64 (x18_34 + 1)) == 1) == (decide (a0 ≤ 1114111)))) else (some (((wrap64 (x18_34 + 1)) == 1) == false))) else (some false)) else (some false)) else (some false)) = some r := by rw [if_pos rfl] at H; exact H
                          clear H
                          have H := H1
                          clear H1
                          by_cases c42 : t188 = a0
                          · rw [if_pos c42] at H
                            have c42b0 : (t188 == a0) = true := beq_iff_eq.mpr c42
                            have c42b1 : (t188 != a0) = false := bne_eq_false_iff_eq.mpr c42
                            clear c42
                            by_cases c43 : (t187.size : Int) ≥ 6
                            · rw [if_pos c43] at H
                              have c43b0 : decide (6 ≤ (t187.size : Int)) = true := decide_eq_true c43
                              have c43b1 : decide (6 ≤ t187.size) = true := decide_eq_true (by omega)
                              clear c43
                              by_cases c44 : (wrap64 (x18_34 + 1)) ≤ 1
                              · rw [if_pos c44] at H
                                have c44b0 : decide ((wrap64 (x18_34 + 1)) ≤ 1) = true := decide_eq_true c44
                                clear c44
                                by_cases c45 : a0 ≥ 0
                                · rw [if_pos c45] at H
                                  have c45b0 : decide (0 ≤ a0) = true := decide_eq_true c45
                                  clear c45
                                  obtain rfl := Option.some.inj H
                                  go_wp2_with (first | ((with_reducible refine gate_callee (f := 16) rfl ?_); refine goesL_ (some 102) rfl rfl Tryd.func16 (by kernel_rfl) rfl #[.int .i32 a0] rfl (by (try simp only [List.map_toArray, List.map_cons, List.map_nil]); first | done | rfl | (simp only [List.length_drop, List.length_take]; rfl)) ?_; (with_reducible refine (ucs_Low.calls a0 true _ A37.out).mono ?_); rintro e w' ⟨rfl, ⟨nd, rfl⟩⟩; refine ⟨_, rfl, ?_⟩) | ((with_reducible refine gate_callee (f := 18) rfl ?_); refine goesL_ (some 107) rfl rfl Tryd.func18 (by kernel_rfl) rfl #[.int .i32 a0] rfl (by (try simp only [List.map_toArray, List.map_cons, List.map_nil]); first | done | rfl | (simp only [List.length_drop, List.length_take]; rfl)) ?_; (with_reducible refine (ucs_Scalar.calls a0 t193 _ A39.out).mono ?_); rintro e w' ⟨rfl, ⟨nd, rfl⟩⟩; refine ⟨_, rfl, ?_⟩))
                                  go_ret
                                  exact ⟨by first | rfl | (simp [errW_none, errW_some] <;> rfl) | (simp [*, errW_none, errW_some] <;> rfl), by repeat (first | (with_reducible first | exact HB.out | apply below_alloc | apply pw_below_drewN | apply below_drew1) | exact HB.out)⟩
                                · rw [if_neg c45] at H
                                  have c45b0 : decide (0 ≤ a0) = false := decide_eq_false c45
                                  clear c45
                                  obtain rfl := Option.some.inj H
                                  go_wp2_with (first | ((with_reducible refine gate_callee (f := 16) rfl ?_); refine goesL_ (some 102) rfl rfl Tryd.func16 (by kernel_rfl) rfl #[.int .i32 a0] rfl (by (try simp only [List.map_toArray, List.map_cons, List.map_nil]); first | done | rfl | (simp only [List.length_drop, List.length_take]; rfl)) ?_; (with_reducible refine (ucs_Low.calls a0 true _ A37.out).mono ?_); rintro e w' ⟨rfl, ⟨nd, rfl⟩⟩; refine ⟨_, rfl, ?_⟩) | ((with_reducible refine gate_callee (f := 18) rfl ?_); refine goesL_ (some 107) rfl rfl Tryd.func18 (by kernel_rfl) rfl #[.int .i32 a0] rfl (by (try simp only [List.map_toArray, List.map_cons, List.map_nil]); first | done | rfl | (simp only [List.length_drop, List.length_take]; rfl)) ?_; (with_reducible refine (ucs_Scalar.calls a0 t193 _ A39.out).mono ?_); rintro e w' ⟨rfl, ⟨nd, rfl⟩⟩; refine ⟨_, rfl, ?_⟩))
                                  go_ret
                                  exact ⟨by first | rfl | (simp [errW_none, errW_some] <;> rfl) | (simp [*, errW_none, errW_some] <;> rfl), by repeat (first | (with_reducible first | exact HB.out | apply below_alloc | apply pw_below_drewN | apply below_drew1) | exact HB.out)⟩
                              · rw [if_neg c44] at H
                                have c44b0 : decide ((wrap64 (x18_34 + 1)) ≤ 1) = false := decide_eq_false c44
                                clear c44
                                obtain rfl := Option.some.inj H
                                go_wp2_with (first | ((with_reducible refine gate_callee (f := 16) rfl ?_); refine goesL_ (some 102) rfl rfl Tryd.func16 (by kernel_rfl) rfl #[.int .i32 a0] rfl (by (try simp only [List.map_toArray, List.map_cons, List.map_nil]); first | done | rfl | (simp only [List.length_drop, List.length_take]; rfl)) ?_; (with_reducible refine (ucs_Low.calls a0 true _ A37.out).mono ?_); rintro e w' ⟨rfl, ⟨nd, rfl⟩⟩; refine ⟨_, rfl, ?_⟩) | ((with_reducible refine gate_callee (f := 18) rfl ?_); refine goesL_ (some 107) rfl rfl Tryd.func18 (by kernel_rfl) rfl #[.int .i32 a0] rfl (by (try simp only [List.map_toArray, List.map_cons, List.map_nil]); first | done | rfl | (simp only [List.length_drop, List.length_take]; rfl)) ?_; (with_reducible refine (ucs_Scalar.calls a0 t193 _ A39.out).mono ?_); rintro e w' ⟨rfl, ⟨nd, rfl⟩⟩; refine ⟨_, rfl, ?_⟩))
                                go_ret
                                exact ⟨by first | rfl | (simp [errW_none, errW_some] <;> rfl) | (simp [*, errW_none, errW_some] <;> rfl), by repeat (first | (with_reducible first | exact HB.out | apply below_alloc | apply pw_below_drewN | apply below_drew1) | exact HB.out)⟩
                            · rw [if_neg c43] at H
                              have c43b0 : decide (6 ≤ (t187.size : Int)) = false := decide_eq_false c43
                              have c43b1 : decide (6 ≤ t187.size) = false := decide_eq_false (by omega)
                              clear c43
                              obtain rfl := Option.some.inj H
                              go_wp2_with (first | ((with_reducible refine gate_callee (f := 16) rfl ?_); refine goesL_ (some 102) rfl rfl Tryd.func16 (by kernel_rfl) rfl #[.int .i32 a0] rfl (by (try simp only [List.map_toArray, List.map_cons, List.map_nil]); first | done | rfl | (simp only [List.length_drop, List.length_take]; rfl)) ?_; (with_reducible refine (ucs_Low.calls a0 true _ A37.out).mono ?_); rintro e w' ⟨rfl, ⟨nd, rfl⟩⟩; refine ⟨_, rfl, ?_⟩) | ((with_reducible refine gate_callee (f := 18) rfl ?_); refine goesL_ (some 107) rfl rfl Tryd.func18 (by kernel_rfl) rfl #[.int .i32 a0] rfl (by (try simp only [List.map_toArray, List.map_cons, List.map_nil]); first | done | rfl | (simp only [List.length_drop, List.length_take]; rfl)) ?_; (with_reducible refine (ucs_Scalar.calls a0 t193 _ A39.out).mono ?_); rintro e w' ⟨rfl, ⟨nd, rfl⟩⟩; refine ⟨_, rfl, ?_⟩))
                              go_ret
                              exact ⟨by first | rfl | (simp [errW_none, errW_some] <;> rfl) | (simp [*, errW_none, errW_some] <;> rfl), by repeat (first | (with_reducible first | exact HB.out | apply below_alloc | apply pw_below_drewN | apply below_drew1) | exact HB.out)⟩
                          · rw [if_neg c42] at H
                            have c42b0 : (t188 == a0) = false := beq_eq_false_iff_ne.mpr c42
                            have c42b1 : (t188 != a0) = true := bne_iff_ne.mpr c42
                            obtain rfl := Option.some.inj H
                            go_wp2_with (first | ((with_reducible refine gate_callee (f := 16) rfl ?_); refine goesL_ (some 102) rfl rfl Tryd.func16 (by kernel_rfl) rfl #[.int .i32 a0] rfl (by (try simp only [List.map_toArray, List.map_cons, List.map_nil]); first | done | rfl | (simp only [List.length_drop, List.length_take]; rfl)) ?_; (with_reducible refine (ucs_Low.calls a0 true _ A37.out).mono ?_); rintro e w' ⟨rfl, ⟨nd, rfl⟩⟩; refine ⟨_, rfl, ?_⟩) | ((with_reducible refine gate_callee (f := 18) rfl ?_); refine goesL_ (some 107) rfl rfl Tryd.func18 (by kernel_rfl) rfl #[.int .i32 a0] rfl (by (try simp only [List.map_toArray, List.map_cons, List.map_nil]); first | done | rfl | (simp only [List.length_drop, List.length_take]; rfl)) ?_; (with_reducible refine (ucs_Scalar.calls a0 t193 _ A39.out).mono ?_); rintro e w' ⟨rfl, ⟨nd, rfl⟩⟩; refine ⟨_, rfl, ?_⟩))
                            go_ret
                            exact ⟨by first | rfl | (simp [errW_none, errW_some] <;> rfl) | (simp [*, errW_none, errW_some] <;> rfl), by repeat (first | (with_reducible first | exact HB.out | apply below_alloc | apply pw_below_drewN | apply below_drew1) | exact HB.out)⟩
                        · replace c41 := Bool.eq_false_iff.mpr c41
                          subst c41
                          have H1 : (if (wrap64 (x18_34 + 1)) ≤ 1 then (if a0 ≥ 0 then (some (((wrap64 (x18_34 + 1)) == 1) == (decide (a0 ≤ 1114111)))) else (some (((wrap64 (x18_34 + 1)) == 1) == false))) else (some false)) = some r := by rw [if_neg (show ¬ (false = true) by decide)] at H; exact H
                          clear H
                          have H := H1
                          clear H1
                          by_cases c46 : (wrap64 (x18_34 + 1)) ≤ 1
                          · rw [if_pos c46] at H
                            have c46b0 : decide ((wrap64 (x18_34 + 1)) ≤ 1) = true := decide_eq_true c46
                            clear c46
                            by_cases c47 : a0 ≥ 0
                            · rw [if_pos c47] at H
                              have c47b0 : decide (0 ≤ a0) = true := decide_eq_true c47
                              clear c47
                              obtain rfl := Option.some.inj H
                              go_wp2_with (first | ((with_reducible refine gate_callee (f := 16) rfl ?_); refine goesL_ (some 102) rfl rfl Tryd.func16 (by kernel_rfl) rfl #[.int .i32 a0] rfl (by (try simp only [List.map_toArray, List.map_cons, List.map_nil]); first | done | rfl | (simp only [List.length_drop, List.length_take]; rfl)) ?_; (with_reducible refine (ucs_Low.calls a0 true _ A37.out).mono ?_); rintro e w' ⟨rfl, ⟨nd, rfl⟩⟩; refine ⟨_, rfl, ?_⟩) | ((with_reducible refine gate_callee (f := 18) rfl ?_); refine goesL_ (some 107) rfl rfl Tryd.func18 (by kernel_rfl) rfl #[.int .i32 a0] rfl (by (try simp only [List.map_toArray, List.map_cons, List.map_nil]); first | done | rfl | (simp only [List.length_drop, List.length_take]; rfl)) ?_; (with_reducible refine (ucs_Scalar.calls a0 t193 _ A39.out).mono ?_); rintro e w' ⟨rfl, ⟨nd, rfl⟩⟩; refine ⟨_, rfl, ?_⟩))
                              go_ret
                              exact ⟨by first | rfl | (simp [errW_none, errW_some] <;> rfl) | (simp [*, errW_none, errW_some] <;> rfl), by repeat (first | (with_reducible first | exact HB.out | apply below_alloc | apply pw_below_drewN | apply below_drew1) | exact HB.out)⟩
                            · rw [if_neg c47] at H
                              have c47b0 : decide (0 ≤ a0) = false := decide_eq_false c47
                              clear c47
                              obtain rfl := Option.some.inj H
                              go_wp2_with (first | ((with_reducible refine gate_callee (f := 16) rfl ?_); refine goesL_ (some 102) rfl rfl Tryd.func16 (by kernel_rfl) rfl #[.int .i32 a0] rfl (by (try simp only [List.map_toArray, List.map_cons, List.map_nil]); first | done | rfl | (simp only [List.length_drop, List.length_take]; rfl)) ?_; (with_reducible refine (ucs_Low.calls a0 true _ A37.out).mono ?_); rintro e w' ⟨rfl, ⟨nd, rfl⟩⟩; refine ⟨_, rfl, ?_⟩) | ((with_reducible refine gate_callee (f := 18) rfl ?_); refine goesL_ (some 107) rfl rfl Tryd.func18 (by kernel_rfl) rfl #[.int .i32 a0] rfl (by (try simp only [List.map_toArray, List.map_cons, List.map_nil]); first | done | rfl | (simp only [List.length_drop, List.length_take]; rfl)) ?_; (with_reducible refine (ucs_Scalar.calls a0 t193 _ A39.out).mono ?_); rintro e w' ⟨rfl, ⟨nd, rfl⟩⟩; refine ⟨_, rfl, ?_⟩))
                              go_ret
                              exact ⟨by first | rfl | (simp [errW_none, errW_some] <;> rfl) | (simp [*, errW_none, errW_some] <;> rfl), by repeat (first | (with_reducible first | exact HB.out | apply below_alloc | apply pw_below_drewN | apply below_drew1) | exact HB.out)⟩
                          · rw [if_neg c46] at H
                            have c46b0 : decide ((wrap64 (x18_34 + 1)) ≤ 1) = false := decide_eq_false c46
                            clear c46
                            obtain rfl := Option.some.inj H
                            go_wp2_with (first | ((with_reducible refine gate_callee (f := 16) rfl ?_); refine goesL_ (some 102) rfl rfl Tryd.func16 (by kernel_rfl) rfl #[.int .i32 a0] rfl (by (try simp only [List.map_toArray, List.map_cons, List.map_nil]); first | done | rfl | (simp only [List.length_drop, List.length_take]; rfl)) ?_; (with_reducible refine (ucs_Low.calls a0 true _ A37.out).mono ?_); rintro e w' ⟨rfl, ⟨nd, rfl⟩⟩; refine ⟨_, rfl, ?_⟩) | ((with_reducible refine gate_callee (f := 18) rfl ?_); refine goesL_ (some 107) rfl rfl Tryd.func18 (by kernel_rfl) rfl #[.int .i32 a0] rfl (by (try simp only [List.map_toArray, List.map_cons, List.map_nil]); first | done | rfl | (simp only [List.length_drop, List.length_take]; rfl)) ?_; (with_reducible refine (ucs_Scalar.calls a0 t193 _ A39.out).mono ?_); rintro e w' ⟨rfl, ⟨nd, rfl⟩⟩; refine ⟨_, rfl, ?_⟩))
                            go_ret
                            exact ⟨by first | rfl | (simp [errW_none, errW_some] <;> rfl) | (simp [*, errW_none, errW_some] <;> rfl), by repeat (first | (with_reducible first | exact HB.out | apply below_alloc | apply pw_below_drewN | apply below_drew1) | exact HB.out)⟩
                      · rw [if_neg c40] at H
                        have c40b0 : (t189 == t193) = false := by simpa using c40
                        (try (have c40b1 : decide (t189 = t193) = false := by simpa using c40))
                        (try (have c40b2 : (t189 == t193) = false := by simpa using c40))
                        (try (have c40b3 : ¬ (t189 = t193) := by simpa using c40))
                        clear c40
                        obtain rfl := Option.some.inj H
                        go_wp2_with (first | ((with_reducible refine gate_callee (f := 16) rfl ?_); refine goesL_ (some 102) rfl rfl Tryd.func16 (by kernel_rfl) rfl #[.int .i32 a0] rfl (by (try simp only [List.map_toArray, List.map_cons, List.map_nil]); first | done | rfl | (simp only [List.length_drop, List.length_take]; rfl)) ?_; (with_reducible refine (ucs_Low.calls a0 true _ A37.out).mono ?_); rintro e w' ⟨rfl, ⟨nd, rfl⟩⟩; refine ⟨_, rfl, ?_⟩) | ((with_reducible refine gate_callee (f := 18) rfl ?_); refine goesL_ (some 107) rfl rfl Tryd.func18 (by kernel_rfl) rfl #[.int .i32 a0] rfl (by (try simp only [List.map_toArray, List.map_cons, List.map_nil]); first | done | rfl | (simp only [List.length_drop, List.length_take]; rfl)) ?_; (with_reducible refine (ucs_Scalar.calls a0 t193 _ A39.out).mono ?_); rintro e w' ⟨rfl, ⟨nd, rfl⟩⟩; refine ⟨_, rfl, ?_⟩))
                        go_ret
                        exact ⟨by first | rfl | (simp [errW_none, errW_some] <;> rfl) | (simp [*, errW_none, errW_some] <;> rfl), by repeat (first | (with_reducible first | exact HB.out | apply below_alloc | apply pw_below_drewN | apply below_drew1) | exact HB.out)⟩
                    · replace c38 := Bool.eq_false_iff.mpr c38
                      subst c38
                      have H1 : ((ucs_Scalar.f a0).bind fun t194 => (if (t189 == t194) = true then (if t189 = true then (if t188 = a0 then (if (t187.size : Int) ≥ 6 then (if x18_34 ≤ 1 then (if a0 ≥ 0 then (some ((x18_34 == 1) == (decide (a0 ≤ 1114111)))) else (some ((x18_34 == 1) == false))) else (some false)) else (some false)) else (some false)) else (if x18_34 ≤ 1 then (if a0 ≥ 0 then (some ((x18_34 == 1) == (decide (a0 ≤ 1114111)))) else (some ((x18_34 == 1) == false))) else (some false))) else (some false))) = some r := by rw [if_neg (show ¬ (false = true) by decide)] at H; exact H
                      clear H
                      have H := H1
                      clear H1
                      replace H := Option.bind_eq_some_iff.mp H
                      obtain ⟨t194, A480, H⟩ := H
                      replace H : (if (t189 == t194) = true then (if t189 = true then (if t188 = a0 then (if (t187.size : Int) ≥ 6 then (if x18_34 ≤ 1 then (if a0 ≥ 0 then (some ((x18_34 == 1) == (decide (a0 ≤ 1114111)))) else (some ((x18_34 == 1) == false))) else (some false)) else (some false)) else (some false)) else (if x18_34 ≤ 1 then (if a0 ≥ 0 then (some ((x18_34 == 1) == (decide (a0 ≤ 1114111)))) else (some ((x18_34 == 1) == false))) else (some false))) else (some false)) = some r := H
                      have A48 := Aside0.mk A480
                      clear A480
                      by_cases c49 : (t189 == t194) = true
                      · rw [if_pos c49] at H
                        have c49b0 : (t189 == t194) = true := c49
                        (try (have c49b1 : decide (t189 = t194) = true := by simpa using c49))
                        (try (have c49b2 : (t189 == t194) = true := by simpa using c49))
                        clear c49
                        by_cases c50 : t189 = true
                        · subst c50
                          have H1 : (if t188 = a0 then (if (t187.size : Int) ≥ 6 then (if x18_34 ≤ 1 then (if a0 ≥ 0 then (some ((x18_34 == 1) == (decide (a0 ≤ 1114111)))) else (some ((x18_34 == 1) == false))) else (some false)) else (some false)) else (some false)) = some r := by rw [if_pos rfl] at H; exact H
                          clear H
                          have H := H1
                          clear H1
                          by_cases c51 : t188 = a0
                          · rw [if_pos c51] at H
                            have c51b0 : (t188 == a0) = true := beq_iff_eq.mpr c51
                            have c51b1 : (t188 != a0) = false := bne_eq_false_iff_eq.mpr c51
                            clear c51
                            by_cases c52 : (t187.size : Int) ≥ 6
                            · rw [if_pos c52] at H
                              have c52b0 : decide (6 ≤ (t187.size : Int)) = true := decide_eq_true c52
                              have c52b1 : decide (6 ≤ t187.size) = true := decide_eq_true (by omega)
                              clear c52
                              by_cases c53 : x18_34 ≤ 1
                              · rw [if_pos c53] at H
                                have c53b0 : decide (x18_34 ≤ 1) = true := decide_eq_true c53
                                clear c53
                                by_cases c54 : a0 ≥ 0
                                · rw [if_pos c54] at H
                                  have c54b0 : decide (0 ≤ a0) = true := decide_eq_true c54
                                  clear c54
                                  obtain rfl := Option.some.inj H
                                  go_wp2_with (first | ((with_reducible refine gate_callee (f := 16) rfl ?_); refine goesL_ (some 102) rfl rfl Tryd.func16 (by kernel_rfl) rfl #[.int .i32 a0] rfl (by (try simp only [List.map_toArray, List.map_cons, List.map_nil]); first | done | rfl | (simp only [List.length_drop, List.length_take]; rfl)) ?_; (with_reducible refine (ucs_Low.calls a0 false _ A37.out).mono ?_); rintro e w' ⟨rfl, ⟨nd, rfl⟩⟩; refine ⟨_, rfl, ?_⟩) | ((with_reducible refine gate_callee (f := 18) rfl ?_); refine goesL_ (some 107) rfl rfl Tryd.func18 (by kernel_rfl) rfl #[.int .i32 a0] rfl (by (try simp only [List.map_toArray, List.map_cons, List.map_nil]); first | done | rfl | (simp only [List.length_drop, List.length_take]; rfl)) ?_; (with_reducible refine (ucs_Scalar.calls a0 t194 _ A48.out).mono ?_); rintro e w' ⟨rfl, ⟨nd, rfl⟩⟩; refine ⟨_, rfl, ?_⟩))
                                  go_ret
                                  exact ⟨by first | rfl | (simp [errW_none, errW_some] <;> rfl) | (simp [*, errW_none, errW_some] <;> rfl), by repeat (first | (with_reducible first | exact HB.out | apply below_alloc | apply pw_below_drewN | apply below_drew1) | exact HB.out)⟩
                                · rw [if_neg c54] at H
                                  have c54b0 : decide (0 ≤ a0) = false := decide_eq_false c54
                                  clear c54
                                  obtain rfl := Option.some.inj H
                                  go_wp2_with (first | ((with_reducible refine gate_callee (f := 16) rfl ?_); refine goesL_ (some 102) rfl rfl Tryd.func16 (by kernel_rfl) rfl #[.int .i32 a0] rfl (by (try simp only [List.map_toArray, List.map_cons, List.map_nil]); first | done | rfl | (simp only [List.length_drop, List.length_take]; rfl)) ?_; (with_reducible refine (ucs_Low.calls a0 false _ A37.out).mono ?_); rintro e w' ⟨rfl, ⟨nd, rfl⟩⟩; refine ⟨_, rfl, ?_⟩) | ((with_reducible refine gate_callee (f := 18) rfl ?_); refine goesL_ (some 107) rfl rfl Tryd.func18 (by kernel_rfl) rfl #[.int .i32 a0] rfl (by (try simp only [List.map_toArray, List.map_cons, List.map_nil]); first | done | rfl | (simp only [List.length_drop, List.length_take]; rfl)) ?_; (with_reducible refine (ucs_Scalar.calls a0 t194 _ A48.out).mono ?_); rintro e w' ⟨rfl, ⟨nd, rfl⟩⟩; refine ⟨_, rfl, ?_⟩))
                                  go_ret
                                  exact ⟨by first | rfl | (simp [errW_none, errW_some] <;> rfl) | (simp [*, errW_none, errW_some] <;> rfl), by repeat (first | (with_reducible first | exact HB.out | apply below_alloc | apply pw_below_drewN | apply below_drew1) | exact HB.out)⟩
                              · rw [if_neg c53] at H
                                have c53b0 : decide (x18_34 ≤ 1) = false := decide_eq_false c53
                                clear c53
                                obtain rfl := Option.some.inj H
                                go_wp2_with (first | ((with_reducible refine gate_callee (f := 16) rfl ?_); refine goesL_ (some 102) rfl rfl Tryd.func16 (by kernel_rfl) rfl #[.int .i32 a0] rfl (by (try simp only [List.map_toArray, List.map_cons, List.map_nil]); first | done | rfl | (simp only [List.length_drop, List.length_take]; rfl)) ?_; (with_reducible refine (ucs_Low.calls a0 false _ A37.out).mono ?_); rintro e w' ⟨rfl, ⟨nd, rfl⟩⟩; refine ⟨_, rfl, ?_⟩) | ((with_reducible refine gate_callee (f := 18) rfl ?_); refine goesL_ (some 107) rfl rfl Tryd.func18 (by kernel_rfl) rfl #[.int .i32 a0] rfl (by (try simp only [List.map_toArray, List.map_cons, List.map_nil]); first | done | rfl | (simp only [List.length_drop, List.length_take]; rfl)) ?_; (with_reducible refine (ucs_Scalar.calls a0 t194 _ A48.out).mono ?_); rintro e w' ⟨rfl, ⟨nd, rfl⟩⟩; refine ⟨_, rfl, ?_⟩))
                                go_ret
                                exact ⟨by first | rfl | (simp [errW_none, errW_some] <;> rfl) | (simp [*, errW_none, errW_some] <;> rfl), by repeat (first | (with_reducible first | exact HB.out | apply below_alloc | apply pw_below_drewN | apply below_drew1) | exact HB.out)⟩
                            · rw [if_neg c52] at H
                              have c52b0 : decide (6 ≤ (t187.size : Int)) = false := decide_eq_false c52
                              have c52b1 : decide (6 ≤ t187.size) = false := decide_eq_false (by omega)
                              clear c52
                              obtain rfl := Option.some.inj H
                              go_wp2_with (first | ((with_reducible refine gate_callee (f := 16) rfl ?_); refine goesL_ (some 102) rfl rfl Tryd.func16 (by kernel_rfl) rfl #[.int .i32 a0] rfl (by (try simp only [List.map_toArray, List.map_cons, List.map_nil]); first | done | rfl | (simp only [List.length_drop, List.length_take]; rfl)) ?_; (with_reducible refine (ucs_Low.calls a0 false _ A37.out).mono ?_); rintro e w' ⟨rfl, ⟨nd, rfl⟩⟩; refine ⟨_, rfl, ?_⟩) | ((with_reducible refine gate_callee (f := 18) rfl ?_); refine goesL_ (some 107) rfl rfl Tryd.func18 (by kernel_rfl) rfl #[.int .i32 a0] rfl (by (try simp only [List.map_toArray, List.map_cons, List.map_nil]); first | done | rfl | (simp only [List.length_drop, List.length_take]; rfl)) ?_; (with_reducible refine (ucs_Scalar.calls a0 t194 _ A48.out).mono ?_); rintro e w' ⟨rfl, ⟨nd, rfl⟩⟩; refine ⟨_, rfl, ?_⟩))
                              go_ret
                              exact ⟨by first | rfl | (simp [errW_none, errW_some] <;> rfl) | (simp [*, errW_none, errW_some] <;> rfl), by repeat (first | (with_reducible first | exact HB.out | apply below_alloc | apply pw_below_drewN | apply below_drew1) | exact HB.out)⟩
                          · rw [if_neg c51] at H
                            have c51b0 : (t188 == a0) = false := beq_eq_false_iff_ne.mpr c51
                            have c51b1 : (t188 != a0) = true := bne_iff_ne.mpr c51
                            obtain rfl := Option.some.inj H
                            go_wp2_with (first | ((with_reducible refine gate_callee (f := 16) rfl ?_); refine goesL_ (some 102) rfl rfl Tryd.func16 (by kernel_rfl) rfl #[.int .i32 a0] rfl (by (try simp only [List.map_toArray, List.map_cons, List.map_nil]); first | done | rfl | (simp only [List.length_drop, List.length_take]; rfl)) ?_; (with_reducible refine (ucs_Low.calls a0 false _ A37.out).mono ?_); rintro e w' ⟨rfl, ⟨nd, rfl⟩⟩; refine ⟨_, rfl, ?_⟩) | ((with_reducible refine gate_callee (f := 18) rfl ?_); refine goesL_ (some 107) rfl rfl Tryd.func18 (by kernel_rfl) rfl #[.int .i32 a0] rfl (by (try simp only [List.map_toArray, List.map_cons, List.map_nil]); first | done | rfl | (simp only [List.length_drop, List.length_take]; rfl)) ?_; (with_reducible refine (ucs_Scalar.calls a0 t194 _ A48.out).mono ?_); rintro e w' ⟨rfl, ⟨nd, rfl⟩⟩; refine ⟨_, rfl, ?_⟩))
                            go_ret
                            exact ⟨by first | rfl | (simp [errW_none, errW_some] <;> rfl) | (simp [*, errW_none, errW_some] <;> rfl), by repeat (first | (with_reducible first | exact HB.out | apply below_alloc | apply pw_below_drewN | apply below_drew1) | exact HB.out)⟩
                        · replace c50 := Bool.eq_false_iff.mpr c50
                          subst c50
                          have H1 : (if x18_34 ≤ 1 then (if a0 ≥ 0 then (some ((x18_34 == 1) == (decide (a0 ≤ 1114111)))) else (some ((x18_34 == 1) == false))) else (some false)) = some r := by rw [if_neg (show ¬ (false = true) by decide)] at H; exact H
                          clear H
                          have H := H1
                          clear H1
                          by_cases c55 : x18_34 ≤ 1
                          · rw [if_pos c55] at H
                            have c55b0 : decide (x18_34 ≤ 1) = true := decide_eq_true c55
                            clear c55
                            by_cases c56 : a0 ≥ 0
                            · rw [if_pos c56] at H
                              have c56b0 : decide (0 ≤ a0) = true := decide_eq_true c56
                              clear c56
                              obtain rfl := Option.some.inj H
                              go_wp2_with (first | ((with_reducible refine gate_callee (f := 16) rfl ?_); refine goesL_ (some 102) rfl rfl Tryd.func16 (by kernel_rfl) rfl #[.int .i32 a0] rfl (by (try simp only [List.map_toArray, List.map_cons, List.map_nil]); first | done | rfl | (simp only [List.length_drop, List.length_take]; rfl)) ?_; (with_reducible refine (ucs_Low.calls a0 false _ A37.out).mono ?_); rintro e w' ⟨rfl, ⟨nd, rfl⟩⟩; refine ⟨_, rfl, ?_⟩) | ((with_reducible refine gate_callee (f := 18) rfl ?_); refine goesL_ (some 107) rfl rfl Tryd.func18 (by kernel_rfl) rfl #[.int .i32 a0] rfl (by (try simp only [List.map_toArray, List.map_cons, List.map_nil]); first | done | rfl | (simp only [List.length_drop, List.length_take]; rfl)) ?_; (with_reducible refine (ucs_Scalar.calls a0 t194 _ A48.out).mono ?_); rintro e w' ⟨rfl, ⟨nd, rfl⟩⟩; refine ⟨_, rfl, ?_⟩))
                              go_ret
                              exact ⟨by first | rfl | (simp [errW_none, errW_some] <;> rfl) | (simp [*, errW_none, errW_some] <;> rfl), by repeat (first | (with_reducible first | exact HB.out | apply below_alloc | apply pw_below_drewN | apply below_drew1) | exact HB.out)⟩
                            · rw [if_neg c56] at H
                              have c56b0 : decide (0 ≤ a0) = false := decide_eq_false c56
                              clear c56
                              obtain rfl := Option.some.inj H
                              go_wp2_with (first | ((with_reducible refine gate_callee (f := 16) rfl ?_); refine goesL_ (some 102) rfl rfl Tryd.func16 (by kernel_rfl) rfl #[.int .i32 a0] rfl (by (try simp only [List.map_toArray, List.map_cons, List.map_nil]); first | done | rfl | (simp only [List.length_drop, List.length_take]; rfl)) ?_; (with_reducible refine (ucs_Low.calls a0 false _ A37.out).mono ?_); rintro e w' ⟨rfl, ⟨nd, rfl⟩⟩; refine ⟨_, rfl, ?_⟩) | ((with_reducible refine gate_callee (f := 18) rfl ?_); refine goesL_ (some 107) rfl rfl Tryd.func18 (by kernel_rfl) rfl #[.int .i32 a0] rfl (by (try simp only [List.map_toArray, List.map_cons, List.map_nil]); first | done | rfl | (simp only [List.length_drop, List.length_take]; rfl)) ?_; (with_reducible refine (ucs_Scalar.calls a0 t194 _ A48.out).mono ?_); rintro e w' ⟨rfl, ⟨nd, rfl⟩⟩; refine ⟨_, rfl, ?_⟩))
                              go_ret
                              exact ⟨by first | rfl | (simp [errW_none, errW_some] <;> rfl) | (simp [*, errW_none, errW_some] <;> rfl), by repeat (first | (with_reducible first | exact HB.out | apply below_alloc | apply pw_below_drewN | apply below_drew1) | exact HB.out)⟩
                          · rw [if_neg c55] at H
                            have c55b0 : decide (x18_34 ≤ 1) = false := decide_eq_false c55
                            clear c55
                            obtain rfl := Option.some.inj H
                            go_wp2_with (first | ((with_reducible refine gate_callee (f := 16) rfl ?_); refine goesL_ (some 102) rfl rfl Tryd.func16 (by kernel_rfl) rfl #[.int .i32 a0] rfl (by (try simp only [List.map_toArray, List.map_cons, List.map_nil]); first | done | rfl | (simp only [List.length_drop, List.length_take]; rfl)) ?_; (with_reducible refine (ucs_Low.calls a0 false _ A37.out).mono ?_); rintro e w' ⟨rfl, ⟨nd, rfl⟩⟩; refine ⟨_, rfl, ?_⟩) | ((with_reducible refine gate_callee (f := 18) rfl ?_); refine goesL_ (some 107) rfl rfl Tryd.func18 (by kernel_rfl) rfl #[.int .i32 a0] rfl (by (try simp only [List.map_toArray, List.map_cons, List.map_nil]); first | done | rfl | (simp only [List.length_drop, List.length_take]; rfl)) ?_; (with_reducible refine (ucs_Scalar.calls a0 t194 _ A48.out).mono ?_); rintro e w' ⟨rfl, ⟨nd, rfl⟩⟩; refine ⟨_, rfl, ?_⟩))
                            go_ret
                            exact ⟨by first | rfl | (simp [errW_none, errW_some] <;> rfl) | (simp [*, errW_none, errW_some] <;> rfl), by repeat (first | (with_reducible first | exact HB.out | apply below_alloc | apply pw_below_drewN | apply below_drew1) | exact HB.out)⟩
                      · rw [if_neg c49] at H
                        have c49b0 : (t189 == t194) = false := by simpa using c49
                        (try (have c49b1 : decide (t189 = t194) = false := by simpa using c49))
                        (try (have c49b2 : (t189 == t194) = false := by simpa using c49))
                        (try (have c49b3 : ¬ (t189 = t194) := by simpa using c49))
                        clear c49
                        obtain rfl := Option.some.inj H
                        go_wp2_with (first | ((with_reducible refine gate_callee (f := 16) rfl ?_); refine goesL_ (some 102) rfl rfl Tryd.func16 (by kernel_rfl) rfl #[.int .i32 a0] rfl (by (try simp only [List.map_toArray, List.map_cons, List.map_nil]); first | done | rfl | (simp only [List.length_drop, List.length_take]; rfl)) ?_; (with_reducible refine (ucs_Low.calls a0 false _ A37.out).mono ?_); rintro e w' ⟨rfl, ⟨nd, rfl⟩⟩; refine ⟨_, rfl, ?_⟩) | ((with_reducible refine gate_callee (f := 18) rfl ?_); refine goesL_ (some 107) rfl rfl Tryd.func18 (by kernel_rfl) rfl #[.int .i32 a0] rfl (by (try simp only [List.map_toArray, List.map_cons, List.map_nil]); first | done | rfl | (simp only [List.length_drop, List.length_take]; rfl)) ?_; (with_reducible refine (ucs_Scalar.calls a0 t194 _ A48.out).mono ?_); rintro e w' ⟨rfl, ⟨nd, rfl⟩⟩; refine ⟨_, rfl, ?_⟩))
                        go_ret
                        exact ⟨by first | rfl | (simp [errW_none, errW_some] <;> rfl) | (simp [*, errW_none, errW_some] <;> rfl), by repeat (first | (with_reducible first | exact HB.out | apply below_alloc | apply pw_below_drewN | apply below_drew1) | exact HB.out)⟩
  · replace c4 := Bool.eq_false_iff.mpr c4
    subst c4
    have H1 : (some false) = some r := by rw [if_neg (show ¬ (false = true) by decide)] at H; exact H
    clear H
    have H := H1
    clear H1
    obtain rfl := Option.some.inj H
    go_enter Tryd.func4, Tryd.ntmps4
    go_wp2_with (first | ((with_reducible refine gate_callee (f := 14) rfl ?_); refine goesL_ (some 19) rfl rfl Tryd.func14 (by kernel_rfl) rfl #[] rfl (by (try simp only [List.map_toArray, List.map_cons, List.map_nil]); first | done | rfl | (simp only [List.length_drop, List.length_take]; rfl)) ?_; (with_reducible refine (dragomanlaw01_works.calls k  false _ A3.out (by first | exact hT | exact Uc.Tab.below hT (by repeat (first | (with_reducible first | exact HB.out | exact Below.refl _ _ | apply below_alloc | apply pw_below_drewN | apply below_drew1) | exact HB.out)))).mono ?_); rintro e w57 ⟨rfl, hb⟩; refine ⟨_, rfl, ?_⟩; have n0_ := Aside0.mk (below_step (by repeat (first | (with_reducible first | exact HB.out | apply below_alloc | apply pw_below_drewN | apply below_drew1) | exact HB.out)) hb); clear HB; have HB := n0_; clear n0_; (try clear hb); (try clear hb2); (try clear hk); (try clear hi)))
    go_ret
    exact ⟨by first | rfl | (simp [errW_none, errW_some] <;> rfl) | (simp [*, errW_none, errW_some] <;> rfl), by repeat (first | (with_reducible first | exact HB.out | apply below_alloc | apply pw_below_drewN | apply below_drew1) | exact HB.out)⟩

/-- THE ONE PURE STATEMENT of dragomanlaw01_UcsBack: yours. -/
def dragomanlaw01_UcsBack.Pure : Prop := ∀ (a0 : Int) (a1 : Int), (Lit.int .i32 a0).wf = true → (Lit.int .i32 a1).wf = true → ∃ k, dragomanlaw01_UcsBack.f k a0 a1 = some true
theorem dragomanlaw01_UcsBack.walk (P : dragomanlaw01_UcsBack.Pure) (a0 : Int) (a1 : Int) (w : World) (w0 : (Lit.int .i32 a0).wf = true) (w1 : (Lit.int .i32 a1).wf = true) (hT : Uc.Tab w) :
    Calls Tryd.prog 4 #[.int .i32 a0, .int .i32 a1] w fun e w' => e = .returned (.bool true) ∧ Below w.heap.size w w' := by
  obtain ⟨k, h⟩ := P a0 a1 w0 w1
  refine (dragomanlaw01_UcsBack.calls k a0 a1 true w h hT).mono ?_
  rintro e w' ⟨rfl, hd⟩
  exact ⟨rfl, hd⟩

end Go.Proofs.YtegogeglofikhaaDoor.PUcsBack
