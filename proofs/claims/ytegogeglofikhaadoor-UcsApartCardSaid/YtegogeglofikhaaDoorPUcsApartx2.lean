/- UcsApart: what the functions answer, and their walks; what is not printed is given by YtegogeglofikhaaDoorGUcsApart. Written by a program of ours over the print. -/
import Derived.Test.YtegogeglofikhaaDoorPUcsApartx0
import Derived.Test.YtegogeglofikhaaDoorPUcsApartx1
import Derived.Test.YtegogeglofikhaaDoorGUcsApart
namespace Go.Proofs.YtegogeglofikhaaDoor.PUcsApart
open Go.Proofs.YtegogeglofikhaaDoor
open Go.RowKit Go.Proofs.YtegogeglofikhaaDoorW.PrintWords Go.Proofs.YtegogeglofikhaaDoorW.PrintLast Go.Proofs.YtegogeglofikhaaDoorW.PrintMore
attribute [local go_sem] max2_int min2_int max_two min_two max_three min_three max_four min_four   -- for this text's walks alone
set_option linter.unusedVariables false
set_option linter.unusedSimpArgs false

/-! ### dragomanlaw01_works: function 14 -/
def dragomanlaw01_works.f (k : Nat)  : Option (Bool) := (ucs_Join.f 55357 56832).bind fun bt163 => (if bt163.1 = 128512 then (if bt163.2 = true then ((ucs_Scalar.f 55296).bind fun t165 => (if t165 = true then (some false) else ((ucs_Scalar.f 1114111).bind fun t166 => (if t166 = true then ((ucs_Hex.f k 65).bind fun t167 => (some (t167.toList == ([85, 43, 48, 48, 52, 49] : List UInt8)))) else (some false))))) else (some false)) else (some false))
theorem dragomanlaw01_works.mono : ∀ k, LeO (dragomanlaw01_works.f k ) (dragomanlaw01_works.f (k + 1) ) := by
  intro  k
  unfold dragomanlaw01_works.f
  repeat' first
      | (with_reducible exact ucs_Hex.mono _ _)
      | (with_reducible exact LeO.refl _)
      | (with_reducible exact LeO.none _)
      | (with_reducible refine LeO.ite ?_ ?_)
      | (with_reducible refine LeO.bind ?_ (fun _ => ?_))
      | exact ucs_Hex.mono _ _
      | exact LeO.none _
      | refine LeO.ite ?_ ?_
      | refine LeO.bind ?_ (fun _ => ?_)
set_option maxHeartbeats 8000000 in
set_option maxRecDepth 100000 in
theorem dragomanlaw01_works.calls (k : Nat)  (r : Bool) (w : World) (h : dragomanlaw01_works.f k  = some r) (hT : Uc.Tab w) :
    Calls Tryd.prog 14 #[] w fun e w' => e = .returned (.bool r) ∧ Below w.heap.size w w' := by
  have HB := Aside0.mk (Below.refl w.heap.size w)
  have H : ((ucs_Join.f 55357 56832).bind fun bt163 => (if bt163.1 = 128512 then (if bt163.2 = true then ((ucs_Scalar.f 55296).bind fun t165 => (if t165 = true then (some false) else ((ucs_Scalar.f 1114111).bind fun t166 => (if t166 = true then ((ucs_Hex.f k 65).bind fun t167 => (some (t167.toList == ([85, 43, 48, 48, 52, 49] : List UInt8)))) else (some false))))) else (some false)) else (some false))) = some r := h
  clear h
  replace H := Option.bind_eq_some_iff.mp H
  obtain ⟨⟨t163, t164⟩, A10, H⟩ := H
  replace H : (if t163 = 128512 then (if t164 = true then ((ucs_Scalar.f 55296).bind fun t165 => (if t165 = true then (some false) else ((ucs_Scalar.f 1114111).bind fun t166 => (if t166 = true then ((ucs_Hex.f k 65).bind fun t167 => (some (t167.toList == ([85, 43, 48, 48, 52, 49] : List UInt8)))) else (some false))))) else (some false)) else (some false)) = some r := H
  have A1 := Aside0.mk A10
  clear A10
  by_cases c2 : t163 = 128512
  · rw [if_pos c2] at H
    have c2b0 : (t163 == 128512) = true := beq_iff_eq.mpr c2
    have c2b1 : (t163 != 128512) = false := bne_eq_false_iff_eq.mpr c2
    clear c2
    by_cases c3 : t164 = true
    · subst c3
      have H1 : ((ucs_Scalar.f 55296).bind fun t165 => (if t165 = true then (some false) else ((ucs_Scalar.f 1114111).bind fun t166 => (if t166 = true then ((ucs_Hex.f k 65).bind fun t167 => (some (t167.toList == ([85, 43, 48, 48, 52, 49] : List UInt8)))) else (some false))))) = some r := by rw [if_pos rfl] at H; exact H
      clear H
      have H := H1
      clear H1
      replace H := Option.bind_eq_some_iff.mp H
      obtain ⟨t165, A40, H⟩ := H
      replace H : (if t165 = true then (some false) else ((ucs_Scalar.f 1114111).bind fun t166 => (if t166 = true then ((ucs_Hex.f k 65).bind fun t167 => (some (t167.toList == ([85, 43, 48, 48, 52, 49] : List UInt8)))) else (some false)))) = some r := H
      have A4 := Aside0.mk A40
      clear A40
      by_cases c5 : t165 = true
      · subst c5
        have H1 : (some false) = some r := by rw [if_pos rfl] at H; exact H
        clear H
        have H := H1
        clear H1
        obtain rfl := Option.some.inj H
        go_enter Tryd.func14, Tryd.ntmps14
        go_wp2_with (first | ((with_reducible refine gate_callee (f := 8) rfl ?_); refine goesL_ (some 4) rfl rfl Tryd.func8 (by kernel_rfl) rfl #[.int .i32 55357, .int .i32 56832] rfl (by (try simp only [List.map_toArray, List.map_cons, List.map_nil]); first | done | rfl | (simp only [List.length_drop, List.length_take]; rfl)) ?_; (with_reducible refine (ucs_Join.calls 55357 56832 t163 true _ A1.out).mono ?_); rintro e w' ⟨rfl, ⟨nd, rfl⟩⟩; refine ⟨_, rfl, ?_⟩) | (go_at_call 18; (with_reducible refine (ucs_Scalar.calls 55296 true _ A4.out).mono ?_); rintro e w' ⟨rfl, ⟨nd, rfl⟩⟩))
        go_ret
        exact ⟨by first | rfl | (simp [errW_none, errW_some] <;> rfl) | (simp [*, errW_none, errW_some] <;> rfl), by repeat (first | (with_reducible first | exact HB.out | apply below_alloc | apply pw_below_drewN | apply below_drew1) | exact HB.out)⟩
      · replace c5 := Bool.eq_false_iff.mpr c5
        subst c5
        have H1 : ((ucs_Scalar.f 1114111).bind fun t166 => (if t166 = true then ((ucs_Hex.f k 65).bind fun t167 => (some (t167.toList == ([85, 43, 48, 48, 52, 49] : List UInt8)))) else (some false))) = some r := by rw [if_neg (show ¬ (false = true) by decide)] at H; exact H
        clear H
        have H := H1
        clear H1
        replace H := Option.bind_eq_some_iff.mp H
        obtain ⟨t166, A60, H⟩ := H
        replace H : (if t166 = true then ((ucs_Hex.f k 65).bind fun t167 => (some (t167.toList == ([85, 43, 48, 48, 52, 49] : List UInt8)))) else (some false)) = some r := H
        have A6 := Aside0.mk A60
        clear A60
        by_cases c7 : t166 = true
        · subst c7
          have H1 : ((ucs_Hex.f k 65).bind fun t167 => (some (t167.toList == ([85, 43, 48, 48, 52, 49] : List UInt8)))) = some r := by rw [if_pos rfl] at H; exact H
          clear H
          have H := H1
          clear H1
          replace H := Option.bind_eq_some_iff.mp H
          obtain ⟨t167, A80, H⟩ := H
          replace H : (some (t167.toList == ([85, 43, 48, 48, 52, 49] : List UInt8))) = some r := H
          have A8 := Aside0.mk A80
          clear A80
          obtain rfl := Option.some.inj H
          go_enter Tryd.func14, Tryd.ntmps14
          go_wp2_with (first | ((with_reducible refine gate_callee (f := 8) rfl ?_); refine goesL_ (some 4) rfl rfl Tryd.func8 (by kernel_rfl) rfl #[.int .i32 55357, .int .i32 56832] rfl (by (try simp only [List.map_toArray, List.map_cons, List.map_nil]); first | done | rfl | (simp only [List.length_drop, List.length_take]; rfl)) ?_; (with_reducible refine (ucs_Join.calls 55357 56832 t163 true _ A1.out).mono ?_); rintro e w' ⟨rfl, ⟨nd, rfl⟩⟩; refine ⟨_, rfl, ?_⟩) | (go_at_call 18; (with_reducible refine (ucs_Scalar.calls 55296 false _ A4.out).mono ?_); rintro e w' ⟨rfl, ⟨nd, rfl⟩⟩) | (go_at_call 18; (with_reducible refine (ucs_Scalar.calls 1114111 true _ A6.out).mono ?_); rintro e w' ⟨rfl, ⟨nd, rfl⟩⟩) | (go_at_call 19; (with_reducible refine (ucs_Hex.calls k 65 t167 _ A8.out (by first | exact hT | exact Uc.Tab.below hT (by repeat (first | (with_reducible first | exact HB.out | exact Below.refl _ _ | apply below_alloc | apply pw_below_drewN | apply below_drew1) | exact HB.out)))).mono ?_); rintro e w9 ⟨rfl, hb⟩; have n0_ := Aside0.mk (below_step (by repeat (first | (with_reducible first | exact HB.out | apply below_alloc | apply pw_below_drewN | apply below_drew1) | exact HB.out)) hb); clear HB; have HB := n0_; clear n0_; (try clear hb); (try clear hb2); (try clear hk); (try clear hi)))
          go_ret
          exact ⟨by first | rfl | (simp [errW_none, errW_some] <;> rfl) | (simp [*, errW_none, errW_some] <;> rfl), by repeat (first | (with_reducible first | exact HB.out | apply below_alloc | apply pw_below_drewN | apply below_drew1) | exact HB.out)⟩
        · replace c7 := Bool.eq_false_iff.mpr c7
          subst c7
          have H1 : (some false) = some r := by rw [if_neg (show ¬ (false = true) by decide)] at H; exact H
          clear H
          have H := H1
          clear H1
          obtain rfl := Option.some.inj H
          go_enter Tryd.func14, Tryd.ntmps14
          go_wp2_with (first | ((with_reducible refine gate_callee (f := 8) rfl ?_); refine goesL_ (some 4) rfl rfl Tryd.func8 (by kernel_rfl) rfl #[.int .i32 55357, .int .i32 56832] rfl (by (try simp only [List.map_toArray, List.map_cons, List.map_nil]); first | done | rfl | (simp only [List.length_drop, List.length_take]; rfl)) ?_; (with_reducible refine (ucs_Join.calls 55357 56832 t163 true _ A1.out).mono ?_); rintro e w' ⟨rfl, ⟨nd, rfl⟩⟩; refine ⟨_, rfl, ?_⟩) | (go_at_call 18; (with_reducible refine (ucs_Scalar.calls 55296 false _ A4.out).mono ?_); rintro e w' ⟨rfl, ⟨nd, rfl⟩⟩) | (go_at_call 18; (with_reducible refine (ucs_Scalar.calls 1114111 false _ A6.out).mono ?_); rintro e w' ⟨rfl, ⟨nd, rfl⟩⟩))
          go_ret
          exact ⟨by first | rfl | (simp [errW_none, errW_some] <;> rfl) | (simp [*, errW_none, errW_some] <;> rfl), by repeat (first | (with_reducible first | exact HB.out | apply below_alloc | apply pw_below_drewN | apply below_drew1) | exact HB.out)⟩
    · replace c3 := Bool.eq_false_iff.mpr c3
      subst c3
      have H1 : (some false) = some r := by rw [if_neg (show ¬ (false = true) by decide)] at H; exact H
      clear H
      have H := H1
      clear H1
      obtain rfl := Option.some.inj H
      go_enter Tryd.func14, Tryd.ntmps14
      go_wp2_with (first | ((with_reducible refine gate_callee (f := 8) rfl ?_); refine goesL_ (some 4) rfl rfl Tryd.func8 (by kernel_rfl) rfl #[.int .i32 55357, .int .i32 56832] rfl (by (try simp only [List.map_toArray, List.map_cons, List.map_nil]); first | done | rfl | (simp only [List.length_drop, List.length_take]; rfl)) ?_; (with_reducible refine (ucs_Join.calls 55357 56832 t163 false _ A1.out).mono ?_); rintro e w' ⟨rfl, ⟨nd, rfl⟩⟩; refine ⟨_, rfl, ?_⟩))
      go_ret
      exact ⟨by first | rfl | (simp [errW_none, errW_some] <;> rfl) | (simp [*, errW_none, errW_some] <;> rfl), by repeat (first | (with_reducible first | exact HB.out | apply below_alloc | apply pw_below_drewN | apply below_drew1) | exact HB.out)⟩
  · rw [if_neg c2] at H
    have c2b0 : (t163 == 128512) = false := beq_eq_false_iff_ne.mpr c2
    have c2b1 : (t163 != 128512) = true := bne_iff_ne.mpr c2
    obtain rfl := Option.some.inj H
    go_enter Tryd.func14, Tryd.ntmps14
    go_wp2_with (first | ((with_reducible refine gate_callee (f := 8) rfl ?_); refine goesL_ (some 4) rfl rfl Tryd.func8 (by kernel_rfl) rfl #[.int .i32 55357, .int .i32 56832] rfl (by (try simp only [List.map_toArray, List.map_cons, List.map_nil]); first | done | rfl | (simp only [List.length_drop, List.length_take]; rfl)) ?_; (with_reducible refine (ucs_Join.calls 55357 56832 t163 t164 _ A1.out).mono ?_); rintro e w' ⟨rfl, ⟨nd, rfl⟩⟩; refine ⟨_, rfl, ?_⟩))
    go_ret
    exact ⟨by first | rfl | (simp [errW_none, errW_some] <;> rfl) | (simp [*, errW_none, errW_some] <;> rfl), by repeat (first | (with_reducible first | exact HB.out | apply below_alloc | apply pw_below_drewN | apply below_drew1) | exact HB.out)⟩

/-! ### dragomanlaw01_UcsApart: function 6 -/
def dragomanlaw01_UcsApart.j0 : Nat → Int → Int → Bool → Option (Bool)
  | 0, _, _, _ => none
  | k + 1, x0, x1, x16 => if x16 = true then (some true) else ((ucs_Hex.f k x0).bind fun t171 => ((ucs_Hex.f k x1).bind fun t172 => (if ((t171.toList == t172.toList) == (x0 == x1)) = true then (if x0 > x1 then (some true) else (some (decide ((t171.size : Int) ≤ (t172.size : Int))))) else (some false))))
def dragomanlaw01_UcsApart.f (k : Nat) (a0 : Int) (a1 : Int) : Option (Bool) := (dragomanlaw01_works.f k).bind fun t168 => (if t168 = true then ((ucs_Scalar.f a0).bind fun t169 => (if t169 = true then ((ucs_Scalar.f a1).bind fun t170 => (dragomanlaw01_UcsApart.j0 k a0 a1 (!t170))) else (dragomanlaw01_UcsApart.j0 k a0 a1 true))) else (some false))
theorem dragomanlaw01_UcsApart.mono_l : ∀ k, (∀ y0 y1 y2, LeO (dragomanlaw01_UcsApart.j0 k y0 y1 y2) (dragomanlaw01_UcsApart.j0 (k + 1) y0 y1 y2))
  | 0 => fun _ _ _ r h => by simp [dragomanlaw01_UcsApart.j0] at h
  | k + 1 => by
    have ih0 := dragomanlaw01_UcsApart.mono_l k
    · intro y0 y1 y2
      unfold dragomanlaw01_UcsApart.j0
      repeat' first
      | (with_reducible exact ih0 _ _ _)
      | (with_reducible exact dragomanlaw01_works.mono _)
      | (with_reducible exact ucs_Hex.mono _ _)
      | (with_reducible exact LeO.refl _)
      | (with_reducible exact LeO.none _)
      | (with_reducible refine LeO.ite ?_ ?_)
      | (with_reducible refine LeO.bind ?_ (fun _ => ?_))
      | exact ih0 _ _ _
      | exact dragomanlaw01_works.mono _
      | exact ucs_Hex.mono _ _
      | exact LeO.none _
      | refine LeO.ite ?_ ?_
      | refine LeO.bind ?_ (fun _ => ?_)
theorem dragomanlaw01_UcsApart.mono : ∀ a0 a1 k, LeO (dragomanlaw01_UcsApart.f k a0 a1) (dragomanlaw01_UcsApart.f (k + 1) a0 a1) := by
  intro a0 a1 k
  have ih0 := dragomanlaw01_UcsApart.mono_l k
  unfold dragomanlaw01_UcsApart.f
  repeat' first
      | (with_reducible exact ih0 _ _ _)
      | (with_reducible exact dragomanlaw01_works.mono _)
      | (with_reducible exact ucs_Hex.mono _ _)
      | (with_reducible exact LeO.refl _)
      | (with_reducible exact LeO.none _)
      | (with_reducible refine LeO.ite ?_ ?_)
      | (with_reducible refine LeO.bind ?_ (fun _ => ?_))
      | exact ih0 _ _ _
      | exact dragomanlaw01_works.mono _
      | exact ucs_Hex.mono _ _
      | exact LeO.none _
      | refine LeO.ite ?_ ?_
      | refine LeO.bind ?_ (fun _ => ?_)
set_option maxHeartbeats 8000000 in
set_option maxRecDepth 100000 in
theorem dragomanlaw01_UcsApart.calls (k : Nat) (a0 : Int) (a1 : Int) (r : Bool) (w : World) (h : dragomanlaw01_UcsApart.f k a0 a1 = some r) (hT : Uc.Tab w) :
    Calls Tryd.prog 6 #[.int .i32 a0, .int .i32 a1] w fun e w' => e = .returned (.bool r) ∧ Below w.heap.size w w' := by
  have HB := Aside0.mk (Below.refl w.heap.size w)
  have H : ((dragomanlaw01_works.f k).bind fun t168 => (if t168 = true then ((ucs_Scalar.f a0).bind fun t169 => (if t169 = true then ((ucs_Scalar.f a1).bind fun t170 => (dragomanlaw01_UcsApart.j0 k a0 a1 (!t170))) else (dragomanlaw01_UcsApart.j0 k a0 a1 true))) else (some false))) = some r := h
  clear h
  replace H := Option.bind_eq_some_iff.mp H
  obtain ⟨t168, A30, H⟩ := H
  replace H : (if t168 = true then ((ucs_Scalar.f a0).bind fun t169 => (if t169 = true then ((ucs_Scalar.f a1).bind fun t170 => (dragomanlaw01_UcsApart.j0 k a0 a1 (!t170))) else (dragomanlaw01_UcsApart.j0 k a0 a1 true))) else (some false)) = some r := H
  have A3 := Aside0.mk A30
  clear A30
  by_cases c4 : t168 = true
  · subst c4
    have H1 : ((ucs_Scalar.f a0).bind fun t169 => (if t169 = true then ((ucs_Scalar.f a1).bind fun t170 => (dragomanlaw01_UcsApart.j0 k a0 a1 (!t170))) else (dragomanlaw01_UcsApart.j0 k a0 a1 true))) = some r := by rw [if_pos rfl] at H; exact H
    clear H
    have H := H1
    clear H1
    have HC5 := Aside0.mk H
    clear H
    go_enter Tryd.func6, Tryd.ntmps6
    go_upto_region 3 with (first | ((with_reducible refine gate_callee (f := 14) rfl ?_); refine goesL_ (some 7) rfl rfl Tryd.func14 (by kernel_rfl) rfl #[] rfl (by (try simp only [List.map_toArray, List.map_cons, List.map_nil]); first | done | rfl | (simp only [List.length_drop, List.length_take]; rfl)) ?_; (with_reducible refine (dragomanlaw01_works.calls k  true _ A3.out (by first | exact hT | exact Uc.Tab.below hT (by repeat (first | (with_reducible first | exact HB.out | exact Below.refl _ _ | apply below_alloc | apply pw_below_drewN | apply below_drew1) | exact HB.out)))).mono ?_); rintro e w6 ⟨rfl, hb⟩; refine ⟨_, rfl, ?_⟩; have n0_ := Aside0.mk (below_step (by repeat (first | (with_reducible first | exact HB.out | apply below_alloc | apply pw_below_drewN | apply below_drew1) | exact HB.out)) hb); clear HB; have HB := n0_; clear n0_; (try clear hb); (try clear hb2); (try clear hk); (try clear hi)))
    (try simp only [Act.put, List.setIfInBounds_toArray, List.set_cons_zero, List.set_cons_succ])
    go_cut [16] (fun v16 wc => ∃ (kq : Nat) (x16_4 : Bool), v16 = .bool x16_4 ∧ Aside0 (dragomanlaw01_UcsApart.j0 kq a0 a1 x16_4 = some r) ∧ Aside0 (kq ≤ k) ∧ Aside0 (Below w.heap.size w wc))
    case first =>
      have H := HC5.out
      clear HC5
      replace H := Option.bind_eq_some_iff.mp H
      obtain ⟨t169, A70, H⟩ := H
      replace H : (if t169 = true then ((ucs_Scalar.f a1).bind fun t170 => (dragomanlaw01_UcsApart.j0 k a0 a1 (!t170))) else (dragomanlaw01_UcsApart.j0 k a0 a1 true)) = some r := H
      have A7 := Aside0.mk A70
      clear A70
      by_cases c8 : t169 = true
      · subst c8
        have H1 : ((ucs_Scalar.f a1).bind fun t170 => (dragomanlaw01_UcsApart.j0 k a0 a1 (!t170))) = some r := by rw [if_pos rfl] at H; exact H
        clear H
        have H := H1
        clear H1
        replace H := Option.bind_eq_some_iff.mp H
        obtain ⟨t170, A90, H⟩ := H
        replace H : (dragomanlaw01_UcsApart.j0 k a0 a1 (!t170)) = some r := H
        have A9 := Aside0.mk A90
        clear A90
        have H' := Aside0.mk H
        clear H
        go_wp2_with (first | ((with_reducible refine gate_callee (f := 18) rfl ?_); refine goesL_ (some 10) rfl rfl Tryd.func18 (by kernel_rfl) rfl #[.int .i32 a0] rfl (by (try simp only [List.map_toArray, List.map_cons, List.map_nil]); first | done | rfl | (simp only [List.length_drop, List.length_take]; rfl)) ?_; (with_reducible refine (ucs_Scalar.calls a0 true _ A7.out).mono ?_); rintro e w' ⟨rfl, ⟨nd, rfl⟩⟩; refine ⟨_, rfl, ?_⟩) | (go_at_call 18; (with_reducible refine (ucs_Scalar.calls a1 t170 _ A9.out).mono ?_); rintro e w' ⟨rfl, ⟨nd, rfl⟩⟩))
        go_meet
        case rel => exact ⟨_, (!t170), (by first | rfl | (simp; done) | (simp [*]; done)), H', ⟨by first | omega | exact Nat.le_refl _⟩, ⟨by repeat (first | (with_reducible first | exact HB.out | apply below_alloc | apply pw_below_drewN | apply below_drew1) | exact HB.out)⟩⟩
      · replace c8 := Bool.eq_false_iff.mpr c8
        subst c8
        have H1 : (dragomanlaw01_UcsApart.j0 k a0 a1 true) = some r := by rw [if_neg (show ¬ (false = true) by decide)] at H; exact H
        clear H
        have H := H1
        clear H1
        have H' := Aside0.mk H
        clear H
        go_wp2_with (first | ((with_reducible refine gate_callee (f := 18) rfl ?_); refine goesL_ (some 10) rfl rfl Tryd.func18 (by kernel_rfl) rfl #[.int .i32 a0] rfl (by (try simp only [List.map_toArray, List.map_cons, List.map_nil]); first | done | rfl | (simp only [List.length_drop, List.length_take]; rfl)) ?_; (with_reducible refine (ucs_Scalar.calls a0 false _ A7.out).mono ?_); rintro e w' ⟨rfl, ⟨nd, rfl⟩⟩; refine ⟨_, rfl, ?_⟩))
        go_meet
        case rel => exact ⟨_, (true), (by first | rfl | (simp; done) | (simp [*]; done)), H', ⟨by first | omega | exact Nat.le_refl _⟩, ⟨by repeat (first | (with_reducible first | exact HB.out | apply below_alloc | apply pw_below_drewN | apply below_drew1) | exact HB.out)⟩⟩
    case rest =>
      clear HC5
      try clear c1
      try clear p2
      try clear c4
      try clear c6
      try clear c8
      obtain ⟨kq, x16_4, rfl, HA, HJ4, HB⟩ := hcut
      cases kq with
      | zero => exact absurd HA.out (by simp [dragomanlaw01_UcsApart.j0])
      | succ kj4 =>
        have H := HA.out
        clear HA
        simp only [dragomanlaw01_UcsApart.j0] at H
        by_cases c10 : x16_4 = true
        · subst c10
          have H1 : (some true) = some r := by rw [if_pos rfl] at H; exact H
          clear H
          have H := H1
          clear H1
          obtain rfl := Option.some.inj H
          go_wp2
          go_ret
          exact ⟨by first | rfl | (simp [errW_none, errW_some] <;> rfl) | (simp [*, errW_none, errW_some] <;> rfl), by repeat (first | (with_reducible first | exact HB.out | apply below_alloc | apply pw_below_drewN | apply below_drew1) | exact HB.out)⟩
        · replace c10 := Bool.eq_false_iff.mpr c10
          subst c10
          have H1 : ((ucs_Hex.f kj4 a0).bind fun t171 => ((ucs_Hex.f kj4 a1).bind fun t172 => (if ((t171.toList == t172.toList) == (a0 == a1)) = true then (if a0 > a1 then (some true) else (some (decide ((t171.size : Int) ≤ (t172.size : Int))))) else (some false)))) = some r := by rw [if_neg (show ¬ (false = true) by decide)] at H; exact H
          clear H
          have H := H1
          clear H1
          replace H := Option.bind_eq_some_iff.mp H
          obtain ⟨t171, A110, H⟩ := H
          replace H : ((ucs_Hex.f kj4 a1).bind fun t172 => (if ((t171.toList == t172.toList) == (a0 == a1)) = true then (if a0 > a1 then (some true) else (some (decide ((t171.size : Int) ≤ (t172.size : Int))))) else (some false))) = some r := H
          have A11 := Aside0.mk A110
          clear A110
          replace H := Option.bind_eq_some_iff.mp H
          obtain ⟨t172, A120, H⟩ := H
          replace H : (if ((t171.toList == t172.toList) == (a0 == a1)) = true then (if a0 > a1 then (some true) else (some (decide ((t171.size : Int) ≤ (t172.size : Int))))) else (some false)) = some r := H
          have A12 := Aside0.mk A120
          clear A120
          by_cases c13 : ((t171.toList == t172.toList) == (a0 == a1)) = true
          · rw [if_pos c13] at H
            have c13b0 : ((t171.toList == t172.toList) == (a0 == a1)) = true := c13
            (try (have c13b1 : decide ((t171.toList == t172.toList) = (a0 == a1)) = true := by simpa using c13))
            (try (have c13b2 : ((t171.toList == t172.toList) == (a0 == a1)) = true := by simpa using c13))
            clear c13
            by_cases c14 : a0 > a1
            · rw [if_pos c14] at H
              have c14b0 : decide (a1 < a0) = true := decide_eq_true c14
              clear c14
              obtain rfl := Option.some.inj H
              go_wp2_with (first | ((with_reducible refine gate_callee (f := 19) rfl ?_); refine goesL_ (some 18) rfl rfl Tryd.func19 (by kernel_rfl) rfl #[.int .i32 a0] rfl (by (try simp only [List.map_toArray, List.map_cons, List.map_nil]); first | done | rfl | (simp only [List.length_drop, List.length_take]; rfl)) ?_; (with_reducible refine (ucs_Hex.calls kj4 a0 t171 _ A11.out (by first | exact hT | exact Uc.Tab.below hT (by repeat (first | (with_reducible first | exact HB.out | exact Below.refl _ _ | apply below_alloc | apply pw_below_drewN | apply below_drew1) | exact HB.out)))).mono ?_); rintro e w15 ⟨rfl, hb⟩; refine ⟨_, rfl, ?_⟩; have n0_ := Aside0.mk (below_step (by repeat (first | (with_reducible first | exact HB.out | apply below_alloc | apply pw_below_drewN | apply below_drew1) | exact HB.out)) hb); clear HB; have HB := n0_; clear n0_; (try clear hb); (try clear hb2); (try clear hk); (try clear hi)) | ((with_reducible refine gate_callee (f := 19) rfl ?_); refine goesL_ (some 20) rfl rfl Tryd.func19 (by kernel_rfl) rfl #[.int .i32 a1] rfl (by (try simp only [List.map_toArray, List.map_cons, List.map_nil]); first | done | rfl | (simp only [List.length_drop, List.length_take]; rfl)) ?_; (with_reducible refine (ucs_Hex.calls kj4 a1 t172 _ A12.out (by first | exact hT | exact Uc.Tab.below hT (by repeat (first | (with_reducible first | exact HB.out | exact Below.refl _ _ | apply below_alloc | apply pw_below_drewN | apply below_drew1) | exact HB.out)))).mono ?_); rintro e w16 ⟨rfl, hb⟩; refine ⟨_, rfl, ?_⟩; have n0_ := Aside0.mk (below_step (by repeat (first | (with_reducible first | exact HB.out | apply below_alloc | apply pw_below_drewN | apply below_drew1) | exact HB.out)) hb); clear HB; have HB := n0_; clear n0_; (try clear hb); (try clear hb2); (try clear hk); (try clear hi)))
              go_ret
              exact ⟨by first | rfl | (simp [errW_none, errW_some] <;> rfl) | (simp [*, errW_none, errW_some] <;> rfl), by repeat (first | (with_reducible first | exact HB.out | apply below_alloc | apply pw_below_drewN | apply below_drew1) | exact HB.out)⟩
            · rw [if_neg c14] at H
              have c14b0 : decide (a1 < a0) = false := decide_eq_false c14
              clear c14
              obtain rfl := Option.some.inj H
              go_wp2_with (first | ((with_reducible refine gate_callee (f := 19) rfl ?_); refine goesL_ (some 18) rfl rfl Tryd.func19 (by kernel_rfl) rfl #[.int .i32 a0] rfl (by (try simp only [List.map_toArray, List.map_cons, List.map_nil]); first | done | rfl | (simp only [List.length_drop, List.length_take]; rfl)) ?_; (with_reducible refine (ucs_Hex.calls kj4 a0 t171 _ A11.out (by first | exact hT | exact Uc.Tab.below hT (by repeat (first | (with_reducible first | exact HB.out | exact Below.refl _ _ | apply below_alloc | apply pw_below_drewN | apply below_drew1) | exact HB.out)))).mono ?_); rintro e w17 ⟨rfl, hb⟩; refine ⟨_, rfl, ?_⟩; have n0_ := Aside0.mk (below_step (by repeat (first | (with_reducible first | exact HB.out | apply below_alloc | apply pw_below_drewN | apply below_drew1) | exact HB.out)) hb); clear HB; have HB := n0_; clear n0_; (try clear hb); (try clear hb2); (try clear hk); (try clear hi)) | ((with_reducible refine gate_callee (f := 19) rfl ?_); refine goesL_ (some 20) rfl rfl Tryd.func19 (by kernel_rfl) rfl #[.int .i32 a1] rfl (by (try simp only [List.map_toArray, List.map_cons, List.map_nil]); first | done | rfl | (simp only [List.length_drop, List.length_take]; rfl)) ?_; (with_reducible refine (ucs_Hex.calls kj4 a1 t172 _ A12.out (by first | exact hT | exact Uc.Tab.below hT (by repeat (first | (with_reducible first | exact HB.out | exact Below.refl _ _ | apply below_alloc | apply pw_below_drewN | apply below_drew1) | exact HB.out)))).mono ?_); rintro e w18 ⟨rfl, hb⟩; refine ⟨_, rfl, ?_⟩; have n0_ := Aside0.mk (below_step (by repeat (first | (with_reducible first | exact HB.out | apply below_alloc | apply pw_below_drewN | apply below_drew1) | exact HB.out)) hb); clear HB; have HB := n0_; clear n0_; (try clear hb); (try clear hb2); (try clear hk); (try clear hi)))
              go_ret
              exact ⟨by first | rfl | (simp [errW_none, errW_some] <;> rfl) | (simp [*, errW_none, errW_some] <;> rfl), by repeat (first | (with_reducible first | exact HB.out | apply below_alloc | apply pw_below_drewN | apply below_drew1) | exact HB.out)⟩
          · rw [if_neg c13] at H
            have c13b0 : ((t171.toList == t172.toList) == (a0 == a1)) = false := by simpa using c13
            (try (have c13b1 : decide ((t171.toList == t172.toList) = (a0 == a1)) = false := by simpa using c13))
            (try (have c13b2 : ((t171.toList == t172.toList) == (a0 == a1)) = false := by simpa using c13))
            (try (have c13b3 : ¬ ((t171.toList == t172.toList) = (a0 == a1)) := by simpa using c13))
            clear c13
            obtain rfl := Option.some.inj H
            go_wp2_with (first | ((with_reducible refine gate_callee (f := 19) rfl ?_); refine goesL_ (some 18) rfl rfl Tryd.func19 (by kernel_rfl) rfl #[.int .i32 a0] rfl (by (try simp only [List.map_toArray, List.map_cons, List.map_nil]); first | done | rfl | (simp only [List.length_drop, List.length_take]; rfl)) ?_; (with_reducible refine (ucs_Hex.calls kj4 a0 t171 _ A11.out (by first | exact hT | exact Uc.Tab.below hT (by repeat (first | (with_reducible first | exact HB.out | exact Below.refl _ _ | apply below_alloc | apply pw_below_drewN | apply below_drew1) | exact HB.out)))).mono ?_); rintro e w19 ⟨rfl, hb⟩; refine ⟨_, rfl, ?_⟩; have n0_ := Aside0.mk (below_step (by repeat (first | (with_reducible first | exact HB.out | apply below_alloc | apply pw_below_drewN | apply below_drew1) | exact HB.out)) hb); clear HB; have HB := n0_; clear n0_; (try clear hb); (try clear hb2); (try clear hk); (try clear hi)) | ((with_reducible refine gate_callee (f := 19) rfl ?_); refine goesL_ (some 20) rfl rfl Tryd.func19 (by kernel_rfl) rfl #[.int .i32 a1] rfl (by (try simp only [List.map_toArray, List.map_cons, List.map_nil]); first | done | rfl | (simp only [List.length_drop, List.length_take]; rfl)) ?_; (with_reducible refine (ucs_Hex.calls kj4 a1 t172 _ A12.out (by first | exact hT | exact Uc.Tab.below hT (by repeat (first | (with_reducible first | exact HB.out | exact Below.refl _ _ | apply below_alloc | apply pw_below_drewN | apply below_drew1) | exact HB.out)))).mono ?_); rintro e w20 ⟨rfl, hb⟩; refine ⟨_, rfl, ?_⟩; have n0_ := Aside0.mk (below_step (by repeat (first | (with_reducible first | exact HB.out | apply below_alloc | apply pw_below_drewN | apply below_drew1) | exact HB.out)) hb); clear HB; have HB := n0_; clear n0_; (try clear hb); (try clear hb2); (try clear hk); (try clear hi)))
            go_ret
            exact ⟨by first | rfl | (simp [errW_none, errW_some] <;> rfl) | (simp [*, errW_none, errW_some] <;> rfl), by repeat (first | (with_reducible first | exact HB.out | apply below_alloc | apply pw_below_drewN | apply below_drew1) | exact HB.out)⟩
  · replace c4 := Bool.eq_false_iff.mpr c4
    subst c4
    have H1 : (some false) = some r := by rw [if_neg (show ¬ (false = true) by decide)] at H; exact H
    clear H
    have H := H1
    clear H1
    obtain rfl := Option.some.inj H
    go_enter Tryd.func6, Tryd.ntmps6
    go_wp2_with (first | ((with_reducible refine gate_callee (f := 14) rfl ?_); refine goesL_ (some 7) rfl rfl Tryd.func14 (by kernel_rfl) rfl #[] rfl (by (try simp only [List.map_toArray, List.map_cons, List.map_nil]); first | done | rfl | (simp only [List.length_drop, List.length_take]; rfl)) ?_; (with_reducible refine (dragomanlaw01_works.calls k  false _ A3.out (by first | exact hT | exact Uc.Tab.below hT (by repeat (first | (with_reducible first | exact HB.out | exact Below.refl _ _ | apply below_alloc | apply pw_below_drewN | apply below_drew1) | exact HB.out)))).mono ?_); rintro e w21 ⟨rfl, hb⟩; refine ⟨_, rfl, ?_⟩; have n0_ := Aside0.mk (below_step (by repeat (first | (with_reducible first | exact HB.out | apply below_alloc | apply pw_below_drewN | apply below_drew1) | exact HB.out)) hb); clear HB; have HB := n0_; clear n0_; (try clear hb); (try clear hb2); (try clear hk); (try clear hi)))
    go_ret
    exact ⟨by first | rfl | (simp [errW_none, errW_some] <;> rfl) | (simp [*, errW_none, errW_some] <;> rfl), by repeat (first | (with_reducible first | exact HB.out | apply below_alloc | apply pw_below_drewN | apply below_drew1) | exact HB.out)⟩

/-- THE ONE PURE STATEMENT of dragomanlaw01_UcsApart: yours. -/
def dragomanlaw01_UcsApart.Pure : Prop := ∀ (a0 : Int) (a1 : Int), (Lit.int .i32 a0).wf = true → (Lit.int .i32 a1).wf = true → ∃ k, dragomanlaw01_UcsApart.f k a0 a1 = some true
theorem dragomanlaw01_UcsApart.walk (P : dragomanlaw01_UcsApart.Pure) (a0 : Int) (a1 : Int) (w : World) (w0 : (Lit.int .i32 a0).wf = true) (w1 : (Lit.int .i32 a1).wf = true) (hT : Uc.Tab w) :
    Calls Tryd.prog 6 #[.int .i32 a0, .int .i32 a1] w fun e w' => e = .returned (.bool true) ∧ Below w.heap.size w w' := by
  obtain ⟨k, h⟩ := P a0 a1 w0 w1
  refine (dragomanlaw01_UcsApart.calls k a0 a1 true w h hT).mono ?_
  rintro e w' ⟨rfl, hd⟩
  exact ⟨rfl, hd⟩

end Go.Proofs.YtegogeglofikhaaDoor.PUcsApart
