/- UcsPlanes: what the functions answer, and their walks; what is not printed is given by YtegogeglofikhaaDoorGUcsPlanes. Written by a program of ours over the print. -/
import Derived.Test.YtegogeglofikhaaDoorPUcsPlanesx0
import Derived.Test.YtegogeglofikhaaDoorPUcsPlanesx1
import Derived.Test.YtegogeglofikhaaDoorGUcsPlanes
namespace Go.Proofs.YtegogeglofikhaaDoor.PUcsPlanes
open Go.Proofs.YtegogeglofikhaaDoor
open Go.RowKit Go.Proofs.YtegogeglofikhaaDoorW.PrintWords Go.Proofs.YtegogeglofikhaaDoorW.PrintLast Go.Proofs.YtegogeglofikhaaDoorW.PrintMore
attribute [local go_sem] max2_int min2_int max_two min_two max_three min_three max_four min_four   -- for this text's walks alone
set_option linter.unusedVariables false
set_option linter.unusedSimpArgs false

/-! ### dragomanlaw01_works: function 14 -/
def dragomanlaw01_works.f (k : Nat)  : Option (Bool) := (ucs_Join.f 55357 56832).bind fun bt163 => (if bt163.1 = 128512 then (if bt163.2 = true then ((ucs_Scalar.f 55296).bind fun t165 => (if t165 = true then (some false) else ((ucs_Scalar.f 1114111).bind fun t166 => (if t166 = true then ((ucs_Hex.f k 65).bind fun t167 => (some (t167.toList == ([85, 43, 48, 48, 52, 49] : List UInt8)))) else (some false))))) else (some false)) else (some false))
theorem dragomanlaw01_works.mono : ∀ k, LeO (dragomanlaw01_works.f k ) (dragomanlaw01_works.f (k + 1) ) := by
  intro  k
  unfold dragomanlaw01_works.f
  repeat' first
      | (with_reducible exact ucs_Hex.mono _ _)
      | (with_reducible exact LeO.refl _)
      | (with_reducible exact LeO.none _)
      | (with_reducible refine LeO.ite ?_ ?_)
      | (with_reducible refine LeO.bind ?_ (fun _ => ?_))
      | exact ucs_Hex.mono _ _
      | exact LeO.none _
      | refine LeO.ite ?_ ?_
      | refine LeO.bind ?_ (fun _ => ?_)
set_option maxHeartbeats 8000000 in
set_option maxRecDepth 100000 in
theorem dragomanlaw01_works.calls (k : Nat)  (r : Bool) (w : World) (h : dragomanlaw01_works.f k  = some r) (hT : Uc.Tab w) :
    Calls Tryd.prog 14 #[] w fun e w' => e = .returned (.bool r) ∧ Below w.heap.size w w' := by
  have HB := Aside0.mk (Below.refl w.heap.size w)
  have H : ((ucs_Join.f 55357 56832).bind fun bt163 => (if bt163.1 = 128512 then (if bt163.2 = true then ((ucs_Scalar.f 55296).bind fun t165 => (if t165 = true then (some false) else ((ucs_Scalar.f 1114111).bind fun t166 => (if t166 = true then ((ucs_Hex.f k 65).bind fun t167 => (some (t167.toList == ([85, 43, 48, 48, 52, 49] : List UInt8)))) else (some false))))) else (some false)) else (some false))) = some r := h
  clear h
  replace H := Option.bind_eq_some_iff.mp H
  obtain ⟨⟨t163, t164⟩, A10, H⟩ := H
  replace H : (if t163 = 128512 then (if t164 = true then ((ucs_Scalar.f 55296).bind fun t165 => (if t165 = true then (some false) else ((ucs_Scalar.f 1114111).bind fun t166 => (if t166 = true then ((ucs_Hex.f k 65).bind fun t167 => (some (t167.toList == ([85, 43, 48, 48, 52, 49] : List UInt8)))) else (some false))))) else (some false)) else (some false)) = some r := H
  have A1 := Aside0.mk A10
  clear A10
  by_cases c2 : t163 = 128512
  · rw [if_pos c2] at H
    have c2b0 : (t163 == 128512) = true := beq_iff_eq.mpr c2
    have c2b1 : (t163 != 128512) = false := bne_eq_false_iff_eq.mpr c2
    clear c2
    by_cases c3 : t164 = true
    · subst c3
      have H1 : ((ucs_Scalar.f 55296).bind fun t165 => (if t165 = true then (some false) else ((ucs_Scalar.f 1114111).bind fun t166 => (if t166 = true then ((ucs_Hex.f k 65).bind fun t167 => (some (t167.toList == ([85, 43, 48, 48, 52, 49] : List UInt8)))) else (some false))))) = some r := by rw [if_pos rfl] at H; exact H
      clear H
      have H := H1
      clear H1
      replace H := Option.bind_eq_some_iff.mp H
      obtain ⟨t165, A40, H⟩ := H
      replace H : (if t165 = true then (some false) else ((ucs_Scalar.f 1114111).bind fun t166 => (if t166 = true then ((ucs_Hex.f k 65).bind fun t167 => (some (t167.toList == ([85, 43, 48, 48, 52, 49] : List UInt8)))) else (some false)))) = some r := H
      have A4 := Aside0.mk A40
      clear A40
      by_cases c5 : t165 = true
      · subst c5
        have H1 : (some false) = some r := by rw [if_pos rfl] at H; exact H
        clear H
        have H := H1
        clear H1
        obtain rfl := Option.some.inj H
        go_enter Tryd.func14, Tryd.ntmps14
        go_wp2_with (first | ((with_reducible refine gate_callee (f := 8) rfl ?_); refine goesL_ (some 4) rfl rfl Tryd.func8 (by kernel_rfl) rfl #[.int .i32 55357, .int .i32 56832] rfl (by (try simp only [List.map_toArray, List.map_cons, List.map_nil]); first | done | rfl | (simp only [List.length_drop, List.length_take]; rfl)) ?_; (with_reducible refine (ucs_Join.calls 55357 56832 t163 true _ A1.out).mono ?_); rintro e w' ⟨rfl, ⟨nd, rfl⟩⟩; refine ⟨_, rfl, ?_⟩) | (go_at_call 18; (with_reducible refine (ucs_Scalar.calls 55296 true _ A4.out).mono ?_); rintro e w' ⟨rfl, ⟨nd, rfl⟩⟩))
        go_ret
        exact ⟨by first | rfl | (simp [errW_none, errW_some] <;> rfl) | (simp [*, errW_none, errW_some] <;> rfl), by repeat (first | (with_reducible first | exact HB.out | apply below_alloc | apply pw_below_drewN | apply below_drew1) | exact HB.out)⟩
      · replace c5 := Bool.eq_false_iff.mpr c5
        subst c5
        have H1 : ((ucs_Scalar.f 1114111).bind fun t166 => (if t166 = true then ((ucs_Hex.f k 65).bind fun t167 => (some (t167.toList == ([85, 43, 48, 48, 52, 49] : List UInt8)))) else (some false))) = some r := by rw [if_neg (show ¬ (false = true) by decide)] at H; exact H
        clear H
        have H := H1
        clear H1
        replace H := Option.bind_eq_some_iff.mp H
        obtain ⟨t166, A60, H⟩ := H
        replace H : (if t166 = true then ((ucs_Hex.f k 65).bind fun t167 => (some (t167.toList == ([85, 43, 48, 48, 52, 49] : List UInt8)))) else (some false)) = some r := H
        have A6 := Aside0.mk A60
        clear A60
        by_cases c7 : t166 = true
        · subst c7
          have H1 : ((ucs_Hex.f k 65).bind fun t167 => (some (t167.toList == ([85, 43, 48, 48, 52, 49] : List UInt8)))) = some r := by rw [if_pos rfl] at H; exact H
          clear H
          have H := H1
          clear H1
          replace H := Option.bind_eq_some_iff.mp H
          obtain ⟨t167, A80, H⟩ := H
          replace H : (some (t167.toList == ([85, 43, 48, 48, 52, 49] : List UInt8))) = some r := H
          have A8 := Aside0.mk A80
          clear A80
          obtain rfl := Option.some.inj H
          go_enter Tryd.func14, Tryd.ntmps14
          go_wp2_with (first | ((with_reducible refine gate_callee (f := 8) rfl ?_); refine goesL_ (some 4) rfl rfl Tryd.func8 (by kernel_rfl) rfl #[.int .i32 55357, .int .i32 56832] rfl (by (try simp only [List.map_toArray, List.map_cons, List.map_nil]); first | done | rfl | (simp only [List.length_drop, List.length_take]; rfl)) ?_; (with_reducible refine (ucs_Join.calls 55357 56832 t163 true _ A1.out).mono ?_); rintro e w' ⟨rfl, ⟨nd, rfl⟩⟩; refine ⟨_, rfl, ?_⟩) | (go_at_call 18; (with_reducible refine (ucs_Scalar.calls 55296 false _ A4.out).mono ?_); rintro e w' ⟨rfl, ⟨nd, rfl⟩⟩) | (go_at_call 18; (with_reducible refine (ucs_Scalar.calls 1114111 true _ A6.out).mono ?_); rintro e w' ⟨rfl, ⟨nd, rfl⟩⟩) | (go_at_call 19; (with_reducible refine (ucs_Hex.calls k 65 t167 _ A8.out (by first | exact hT | exact Uc.Tab.below hT (by repeat (first | (with_reducible first | exact HB.out | exact Below.refl _ _ | apply below_alloc | apply pw_below_drewN | apply below_drew1) | exact HB.out)))).mono ?_); rintro e w9 ⟨rfl, hb⟩; have n0_ := Aside0.mk (below_step (by repeat (first | (with_reducible first | exact HB.out | apply below_alloc | apply pw_below_drewN | apply below_drew1) | exact HB.out)) hb); clear HB; have HB := n0_; clear n0_; (try clear hb); (try clear hb2); (try clear hk); (try clear hi)))
          go_ret
          exact ⟨by first | rfl | (simp [errW_none, errW_some] <;> rfl) | (simp [*, errW_none, errW_some] <;> rfl), by repeat (first | (with_reducible first | exact HB.out | apply below_alloc | apply pw_below_drewN | apply below_drew1) | exact HB.out)⟩
        · replace c7 := Bool.eq_false_iff.mpr c7
          subst c7
          have H1 : (some false) = some r := by rw [if_neg (show ¬ (false = true) by decide)] at H; exact H
          clear H
          have H := H1
          clear H1
          obtain rfl := Option.some.inj H
          go_enter Tryd.func14, Tryd.ntmps14
          go_wp2_with (first | ((with_reducible refine gate_callee (f := 8) rfl ?_); refine goesL_ (some 4) rfl rfl Tryd.func8 (by kernel_rfl) rfl #[.int .i32 55357, .int .i32 56832] rfl (by (try simp only [List.map_toArray, List.map_cons, List.map_nil]); first | done | rfl | (simp only [List.length_drop, List.length_take]; rfl)) ?_; (with_reducible refine (ucs_Join.calls 55357 56832 t163 true _ A1.out).mono ?_); rintro e w' ⟨rfl, ⟨nd, rfl⟩⟩; refine ⟨_, rfl, ?_⟩) | (go_at_call 18; (with_reducible refine (ucs_Scalar.calls 55296 false _ A4.out).mono ?_); rintro e w' ⟨rfl, ⟨nd, rfl⟩⟩) | (go_at_call 18; (with_reducible refine (ucs_Scalar.calls 1114111 false _ A6.out).mono ?_); rintro e w' ⟨rfl, ⟨nd, rfl⟩⟩))
          go_ret
          exact ⟨by first | rfl | (simp [errW_none, errW_some] <;> rfl) | (simp [*, errW_none, errW_some] <;> rfl), by repeat (first | (with_reducible first | exact HB.out | apply below_alloc | apply pw_below_drewN | apply below_drew1) | exact HB.out)⟩
    · replace c3 := Bool.eq_false_iff.mpr c3
      subst c3
      have H1 : (some false) = some r := by rw [if_neg (show ¬ (false = true) by decide)] at H; exact H
      clear H
      have H := H1
      clear H1
      obtain rfl := Option.some.inj H
      go_enter Tryd.func14, Tryd.ntmps14
      go_wp2_with (first | ((with_reducible refine gate_callee (f := 8) rfl ?_); refine goesL_ (some 4) rfl rfl Tryd.func8 (by kernel_rfl) rfl #[.int .i32 55357, .int .i32 56832] rfl (by (try simp only [List.map_toArray, List.map_cons, List.map_nil]); first | done | rfl | (simp only [List.length_drop, List.length_take]; rfl)) ?_; (with_reducible refine (ucs_Join.calls 55357 56832 t163 false _ A1.out).mono ?_); rintro e w' ⟨rfl, ⟨nd, rfl⟩⟩; refine ⟨_, rfl, ?_⟩))
      go_ret
      exact ⟨by first | rfl | (simp [errW_none, errW_some] <;> rfl) | (simp [*, errW_none, errW_some] <;> rfl), by repeat (first | (with_reducible first | exact HB.out | apply below_alloc | apply pw_below_drewN | apply below_drew1) | exact HB.out)⟩
  · rw [if_neg c2] at H
    have c2b0 : (t163 == 128512) = false := beq_eq_false_iff_ne.mpr c2
    have c2b1 : (t163 != 128512) = true := bne_iff_ne.mpr c2
    obtain rfl := Option.some.inj H
    go_enter Tryd.func14, Tryd.ntmps14
    go_wp2_with (first | ((with_reducible refine gate_callee (f := 8) rfl ?_); refine goesL_ (some 4) rfl rfl Tryd.func8 (by kernel_rfl) rfl #[.int .i32 55357, .int .i32 56832] rfl (by (try simp only [List.map_toArray, List.map_cons, List.map_nil]); first | done | rfl | (simp only [List.length_drop, List.length_take]; rfl)) ?_; (with_reducible refine (ucs_Join.calls 55357 56832 t163 t164 _ A1.out).mono ?_); rintro e w' ⟨rfl, ⟨nd, rfl⟩⟩; refine ⟨_, rfl, ?_⟩))
    go_ret
    exact ⟨by first | rfl | (simp [errW_none, errW_some] <;> rfl) | (simp [*, errW_none, errW_some] <;> rfl), by repeat (first | (with_reducible first | exact HB.out | apply below_alloc | apply pw_below_drewN | apply below_drew1) | exact HB.out)⟩

/-! ### ucs_Plane: function 17 -/
def ucs_Plane.f (a0 : Int) : Option (Int) := (ucs_Scalar.f a0).bind fun t168 => (if t168 = true then (some (wrap64 (a0 / 65536))) else (some (-1)))
set_option maxHeartbeats 8000000 in
set_option maxRecDepth 100000 in
theorem ucs_Plane.calls (a0 : Int) (r : Int) (w : World) (h : ucs_Plane.f a0 = some r) :
    Calls Tryd.prog 17 #[.int .i32 a0] w fun e w' => e = .returned (.int .i64 r) ∧ Drawn0 w w' := by
  have H : ((ucs_Scalar.f a0).bind fun t168 => (if t168 = true then (some (wrap64 (a0 / 65536))) else (some (-1)))) = some r := h
  clear h
  replace H := Option.bind_eq_some_iff.mp H
  obtain ⟨t168, A20, H⟩ := H
  replace H : (if t168 = true then (some (wrap64 (a0 / 65536))) else (some (-1))) = some r := H
  have A2 := Aside0.mk A20
  clear A20
  by_cases c3 : t168 = true
  · subst c3
    have H1 : (some (wrap64 (a0 / 65536))) = some r := by rw [if_pos rfl] at H; exact H
    clear H
    have H := H1
    clear H1
    obtain rfl := Option.some.inj H
    go_enter Tryd.func17, Tryd.ntmps17
    go_wp2_with (first | ((with_reducible refine gate_callee (f := 18) rfl ?_); refine goesL_ (some 4) rfl rfl Tryd.func18 (by kernel_rfl) rfl #[.int .i32 a0] rfl (by (try simp only [List.map_toArray, List.map_cons, List.map_nil]); first | done | rfl | (simp only [List.length_drop, List.length_take]; rfl)) ?_; (with_reducible refine (ucs_Scalar.calls a0 true _ A2.out).mono ?_); rintro e w' ⟨rfl, ⟨nd, rfl⟩⟩; refine ⟨_, rfl, ?_⟩))
    go_ret
    exact ⟨by first | rfl | (simp; done) | (simp [*]; done), by repeat (first | exact Drawn0.refl _ | apply Drawn0.step)⟩
  · replace c3 := Bool.eq_false_iff.mpr c3
    subst c3
    have H1 : (some (-1)) = some r := by rw [if_neg (show ¬ (false = true) by decide)] at H; exact H
    clear H
    have H := H1
    clear H1
    obtain rfl := Option.some.inj H
    go_enter Tryd.func17, Tryd.ntmps17
    go_wp2_with (first | ((with_reducible refine gate_callee (f := 18) rfl ?_); refine goesL_ (some 4) rfl rfl Tryd.func18 (by kernel_rfl) rfl #[.int .i32 a0] rfl (by (try simp only [List.map_toArray, List.map_cons, List.map_nil]); first | done | rfl | (simp only [List.length_drop, List.length_take]; rfl)) ?_; (with_reducible refine (ucs_Scalar.calls a0 false _ A2.out).mono ?_); rintro e w' ⟨rfl, ⟨nd, rfl⟩⟩; refine ⟨_, rfl, ?_⟩))
    go_ret
    exact ⟨by first | rfl | (simp; done) | (simp [*]; done), by repeat (first | exact Drawn0.refl _ | apply Drawn0.step)⟩

/-! ### dragomanlaw01_UcsPlanes: function 7 -/
def dragomanlaw01_UcsPlanes.j0 : Nat → Int → Int → Bool → Option (Bool)
  | 0, _, _, _ => none
  | k + 1, x2, x3, x34 => if x34 = true then (some false) else ((ucs_Join.f x2 x3).bind fun bt174 => (if bt174.2 = true then ((ucs_Join.f x2 (wrap32 (x3 + 1))).bind fun bt176 => ((ucs_Join.f (wrap32 (x2 + 1)) x3).bind fun bt178 => ((ucs_Plane.f bt174.1).bind fun t180 => (if t180 ≥ 1 then ((ucs_Plane.f bt174.1).bind fun t181 => (if t181 ≤ 16 then (if bt176.2 = true then (if bt176.1 = (wrap32 (bt174.1 + 1)) then (if bt178.2 = true then (some (bt178.1 == (wrap32 (bt174.1 + 1024)))) else (some true)) else (some false)) else (if bt178.2 = true then (some (bt178.1 == (wrap32 (bt174.1 + 1024)))) else (some true))) else (some false))) else (some false))))) else (some true)))
def dragomanlaw01_UcsPlanes.f (k : Nat) (a0 : Int) (a1 : Int) (a2 : Int) (a3 : Int) : Option (Bool) := (dragomanlaw01_works.f k).bind fun t169 => (if t169 = true then ((ucs_Scalar.f a0).bind fun t170 => (if t170 = true then ((ucs_Scalar.f a1).bind fun t171 => (if t171 = true then (if a0 ≤ a1 then ((ucs_Plane.f a0).bind fun t172 => ((ucs_Plane.f a1).bind fun t173 => (dragomanlaw01_UcsPlanes.j0 k a2 a3 (decide (t172 > t173))))) else (dragomanlaw01_UcsPlanes.j0 k a2 a3 false)) else (dragomanlaw01_UcsPlanes.j0 k a2 a3 false))) else (dragomanlaw01_UcsPlanes.j0 k a2 a3 false))) else (some false))
theorem dragomanlaw01_UcsPlanes.mono_l : ∀ k, (∀ y0 y1 y2, LeO (dragomanlaw01_UcsPlanes.j0 k y0 y1 y2) (dragomanlaw01_UcsPlanes.j0 (k + 1) y0 y1 y2))
  | 0 => fun _ _ _ r h => by simp [dragomanlaw01_UcsPlanes.j0] at h
  | k + 1 => by
    have ih0 := dragomanlaw01_UcsPlanes.mono_l k
    · intro y0 y1 y2
      unfold dragomanlaw01_UcsPlanes.j0
      repeat' first
      | (with_reducible exact ih0 _ _ _)
      | (with_reducible exact dragomanlaw01_works.mono _)
      | (with_reducible exact LeO.refl _)
      | (with_reducible exact LeO.none _)
      | (with_reducible refine LeO.ite ?_ ?_)
      | (with_reducible refine LeO.bind ?_ (fun _ => ?_))
      | exact ih0 _ _ _
      | exact dragomanlaw01_works.mono _
      | exact LeO.none _
      | refine LeO.ite ?_ ?_
      | refine LeO.bind ?_ (fun _ => ?_)
theorem dragomanlaw01_UcsPlanes.mono : ∀ a0 a1 a2 a3 k, LeO (dragomanlaw01_UcsPlanes.f k a0 a1 a2 a3) (dragomanlaw01_UcsPlanes.f (k + 1) a0 a1 a2 a3) := by
  intro a0 a1 a2 a3 k
  have ih0 := dragomanlaw01_UcsPlanes.mono_l k
  unfold dragomanlaw01_UcsPlanes.f
  repeat' first
      | (with_reducible exact ih0 _ _ _)
      | (with_reducible exact dragomanlaw01_works.mono _)
      | (with_reducible exact LeO.refl _)
      | (with_reducible exact LeO.none _)
      | (with_reducible refine LeO.ite ?_ ?_)
      | (with_reducible refine LeO.bind ?_ (fun _ => ?_))
      | exact ih0 _ _ _
      | exact dragomanlaw01_works.mono _
      | exact LeO.none _
      | refine LeO.ite ?_ ?_
      | refine LeO.bind ?_ (fun _ => ?_)
set_option maxHeartbeats 8000000 in
set_option maxRecDepth 100000 in
theorem dragomanlaw01_UcsPlanes.calls (k : Nat) (a0 : Int) (a1 : Int) (a2 : Int) (a3 : Int) (r : Bool) (w : World) (h : dragomanlaw01_UcsPlanes.f k a0 a1 a2 a3 = some r) (hT : Uc.Tab w) :
    Calls Tryd.prog 7 #[.int .i32 a0, .int .i32 a1, .int .i32 a2, .int .i32 a3] w fun e w' => e = .returned (.bool r) ∧ Below w.heap.size w w' := by
  have HB := Aside0.mk (Below.refl w.heap.size w)
  have H : ((dragomanlaw01_works.f k).bind fun t169 => (if t169 = true then ((ucs_Scalar.f a0).bind fun t170 => (if t170 = true then ((ucs_Scalar.f a1).bind fun t171 => (if t171 = true then (if a0 ≤ a1 then ((ucs_Plane.f a0).bind fun t172 => ((ucs_Plane.f a1).bind fun t173 => (dragomanlaw01_UcsPlanes.j0 k a2 a3 (decide (t172 > t173))))) else (dragomanlaw01_UcsPlanes.j0 k a2 a3 false)) else (dragomanlaw01_UcsPlanes.j0 k a2 a3 false))) else (dragomanlaw01_UcsPlanes.j0 k a2 a3 false))) else (some false))) = some r := h
  clear h
  replace H := Option.bind_eq_some_iff.mp H
  obtain ⟨t169, A50, H⟩ := H
  replace H : (if t169 = true then ((ucs_Scalar.f a0).bind fun t170 => (if t170 = true then ((ucs_Scalar.f a1).bind fun t171 => (if t171 = true then (if a0 ≤ a1 then ((ucs_Plane.f a0).bind fun t172 => ((ucs_Plane.f a1).bind fun t173 => (dragomanlaw01_UcsPlanes.j0 k a2 a3 (decide (t172 > t173))))) else (dragomanlaw01_UcsPlanes.j0 k a2 a3 false)) else (dragomanlaw01_UcsPlanes.j0 k a2 a3 false))) else (dragomanlaw01_UcsPlanes.j0 k a2 a3 false))) else (some false)) = some r := H
  have A5 := Aside0.mk A50
  clear A50
  by_cases c6 : t169 = true
  · subst c6
    have H1 : ((ucs_Scalar.f a0).bind fun t170 => (if t170 = true then ((ucs_Scalar.f a1).bind fun t171 => (if t171 = true then (if a0 ≤ a1 then ((ucs_Plane.f a0).bind fun t172 => ((ucs_Plane.f a1).bind fun t173 => (dragomanlaw01_UcsPlanes.j0 k a2 a3 (decide (t172 > t173))))) else (dragomanlaw01_UcsPlanes.j0 k a2 a3 false)) else (dragomanlaw01_UcsPlanes.j0 k a2 a3 false))) else (dragomanlaw01_UcsPlanes.j0 k a2 a3 false))) = some r := by rw [if_pos rfl] at H; exact H
    clear H
    have H := H1
    clear H1
    have HC7 := Aside0.mk H
    clear H
    go_enter Tryd.func7, Tryd.ntmps7
    go_upto_region 3 with (first | ((with_reducible refine gate_callee (f := 14) rfl ?_); refine goesL_ (some 15) rfl rfl Tryd.func14 (by kernel_rfl) rfl #[] rfl (by (try simp only [List.map_toArray, List.map_cons, List.map_nil]); first | done | rfl | (simp only [List.length_drop, List.length_take]; rfl)) ?_; (with_reducible refine (dragomanlaw01_works.calls k  true _ A5.out (by first | exact hT | exact Uc.Tab.below hT (by repeat (first | (with_reducible first | exact HB.out | exact Below.refl _ _ | apply below_alloc | apply pw_below_drewN | apply below_drew1) | exact HB.out)))).mono ?_); rintro e w8 ⟨rfl, hb⟩; refine ⟨_, rfl, ?_⟩; have n0_ := Aside0.mk (below_step (by repeat (first | (with_reducible first | exact HB.out | apply below_alloc | apply pw_below_drewN | apply below_drew1) | exact HB.out)) hb); clear HB; have HB := n0_; clear n0_; (try clear hb); (try clear hb2); (try clear hk); (try clear hi)))
    (try simp only [Act.put, List.setIfInBounds_toArray, List.set_cons_zero, List.set_cons_succ])
    go_cut [34] (fun v34 wc => ∃ (kq : Nat) (x34_6 : Bool), v34 = .bool x34_6 ∧ Aside0 (dragomanlaw01_UcsPlanes.j0 kq a2 a3 x34_6 = some r) ∧ Aside0 (kq ≤ k) ∧ Aside0 (Below w.heap.size w wc))
    case first =>
      have H := HC7.out
      clear HC7
      replace H := Option.bind_eq_some_iff.mp H
      obtain ⟨t170, A90, H⟩ := H
      replace H : (if t170 = true then ((ucs_Scalar.f a1).bind fun t171 => (if t171 = true then (if a0 ≤ a1 then ((ucs_Plane.f a0).bind fun t172 => ((ucs_Plane.f a1).bind fun t173 => (dragomanlaw01_UcsPlanes.j0 k a2 a3 (decide (t172 > t173))))) else (dragomanlaw01_UcsPlanes.j0 k a2 a3 false)) else (dragomanlaw01_UcsPlanes.j0 k a2 a3 false))) else (dragomanlaw01_UcsPlanes.j0 k a2 a3 false)) = some r := H
      have A9 := Aside0.mk A90
      clear A90
      by_cases c10 : t170 = true
      · subst c10
        have H1 : ((ucs_Scalar.f a1).bind fun t171 => (if t171 = true then (if a0 ≤ a1 then ((ucs_Plane.f a0).bind fun t172 => ((ucs_Plane.f a1).bind fun t173 => (dragomanlaw01_UcsPlanes.j0 k a2 a3 (decide (t172 > t173))))) else (dragomanlaw01_UcsPlanes.j0 k a2 a3 false)) else (dragomanlaw01_UcsPlanes.j0 k a2 a3 false))) = some r := by rw [if_pos rfl] at H; exact H
        clear H
        have H := H1
        clear H1
        replace H := Option.bind_eq_some_iff.mp H
        obtain ⟨t171, A110, H⟩ := H
        replace H : (if t171 = true then (if a0 ≤ a1 then ((ucs_Plane.f a0).bind fun t172 => ((ucs_Plane.f a1).bind fun t173 => (dragomanlaw01_UcsPlanes.j0 k a2 a3 (decide (t172 > t173))))) else (dragomanlaw01_UcsPlanes.j0 k a2 a3 false)) else (dragomanlaw01_UcsPlanes.j0 k a2 a3 false)) = some r := H
        have A11 := Aside0.mk A110
        clear A110
        by_cases c12 : t171 = true
        · subst c12
          have H1 : (if a0 ≤ a1 then ((ucs_Plane.f a0).bind fun t172 => ((ucs_Plane.f a1).bind fun t173 => (dragomanlaw01_UcsPlanes.j0 k a2 a3 (decide (t172 > t173))))) else (dragomanlaw01_UcsPlanes.j0 k a2 a3 false)) = some r := by rw [if_pos rfl] at H; exact H
          clear H
          have H := H1
          clear H1
          by_cases c13 : a0 ≤ a1
          · rw [if_pos c13] at H
            have c13b0 : decide (a0 ≤ a1) = true := decide_eq_true c13
            clear c13
            (first | rw [c13b0] | (simp only [i64_w, i32_w]; rw [c13b0]) | skip)
            replace H := Option.bind_eq_some_iff.mp H
            obtain ⟨t172, A140, H⟩ := H
            replace H : ((ucs_Plane.f a1).bind fun t173 => (dragomanlaw01_UcsPlanes.j0 k a2 a3 (decide (t172 > t173)))) = some r := H
            have A14 := Aside0.mk A140
            clear A140
            replace H := Option.bind_eq_some_iff.mp H
            obtain ⟨t173, A150, H⟩ := H
            replace H : (dragomanlaw01_UcsPlanes.j0 k a2 a3 (decide (t172 > t173))) = some r := H
            have A15 := Aside0.mk A150
            clear A150
            have H' := Aside0.mk H
            clear H
            go_wp2_with (first | ((with_reducible refine gate_callee (f := 18) rfl ?_); refine goesL_ (some 18) rfl rfl Tryd.func18 (by kernel_rfl) rfl #[.int .i32 a0] rfl (by (try simp only [List.map_toArray, List.map_cons, List.map_nil]); first | done | rfl | (simp only [List.length_drop, List.length_take]; rfl)) ?_; (with_reducible refine (ucs_Scalar.calls a0 true _ A9.out).mono ?_); rintro e w' ⟨rfl, ⟨nd, rfl⟩⟩; refine ⟨_, rfl, ?_⟩) | (go_at_call 18; (with_reducible refine (ucs_Scalar.calls a1 true _ A11.out).mono ?_); rintro e w' ⟨rfl, ⟨nd, rfl⟩⟩) | (go_at_call 17; (with_reducible refine (ucs_Plane.calls a0 t172 _ A14.out).mono ?_); rintro e w' ⟨rfl, ⟨nd, rfl⟩⟩) | (go_at_call 17; (with_reducible refine (ucs_Plane.calls a1 t173 _ A15.out).mono ?_); rintro e w' ⟨rfl, ⟨nd, rfl⟩⟩))
            go_meet
            case rel => exact ⟨_, (decide (t172 > t173)), (by first | rfl | (simp; done) | (simp [*]; done)), H', ⟨by first | omega | exact Nat.le_refl _⟩, ⟨by repeat (first | (with_reducible first | exact HB.out | apply below_alloc | apply pw_below_drewN | apply below_drew1) | exact HB.out)⟩⟩
          · rw [if_neg c13] at H
            have c13b0 : decide (a0 ≤ a1) = false := decide_eq_false c13
            clear c13
            (first | rw [c13b0] | (simp only [i64_w, i32_w]; rw [c13b0]) | skip)
            have H' := Aside0.mk H
            clear H
            go_wp2_with (first | ((with_reducible refine gate_callee (f := 18) rfl ?_); refine goesL_ (some 18) rfl rfl Tryd.func18 (by kernel_rfl) rfl #[.int .i32 a0] rfl (by (try simp only [List.map_toArray, List.map_cons, List.map_nil]); first | done | rfl | (simp only [List.length_drop, List.length_take]; rfl)) ?_; (with_reducible refine (ucs_Scalar.calls a0 true _ A9.out).mono ?_); rintro e w' ⟨rfl, ⟨nd, rfl⟩⟩; refine ⟨_, rfl, ?_⟩) | (go_at_call 18; (with_reducible refine (ucs_Scalar.calls a1 true _ A11.out).mono ?_); rintro e w' ⟨rfl, ⟨nd, rfl⟩⟩))
            go_meet
            case rel => exact ⟨_, (false), (by first | rfl | (simp; done) | (simp [*]; done)), H', ⟨by first | omega | exact Nat.le_refl _⟩, ⟨by repeat (first | (with_reducible first | exact HB.out | apply below_alloc | apply pw_below_drewN | apply below_drew1) | exact HB.out)⟩⟩
        · replace c12 := Bool.eq_false_iff.mpr c12
          subst c12
          have H1 : (dragomanlaw01_UcsPlanes.j0 k a2 a3 false) = some r := by rw [if_neg (show ¬ (false = true) by decide)] at H; exact H
          clear H
          have H := H1
          clear H1
          have H' := Aside0.mk H
          clear H
          go_wp2_with (first | ((with_reducible refine gate_callee (f := 18) rfl ?_); refine goesL_ (some 18) rfl rfl Tryd.func18 (by kernel_rfl) rfl #[.int .i32 a0] rfl (by (try simp only [List.map_toArray, List.map_cons, List.map_nil]); first | done | rfl | (simp only [List.length_drop, List.length_take]; rfl)) ?_; (with_reducible refine (ucs_Scalar.calls a0 true _ A9.out).mono ?_); rintro e w' ⟨rfl, ⟨nd, rfl⟩⟩; refine ⟨_, rfl, ?_⟩) | (go_at_call 18; (with_reducible refine (ucs_Scalar.calls a1 false _ A11.out).mono ?_); rintro e w' ⟨rfl, ⟨nd, rfl⟩⟩))
          go_meet
          case rel => exact ⟨_, (false), (by first | rfl | (simp; done) | (simp [*]; done)), H', ⟨by first | omega | exact Nat.le_refl _⟩, ⟨by repeat (first | (with_reducible first | exact HB.out | apply below_alloc | apply pw_below_drewN | apply below_drew1) | exact HB.out)⟩⟩
      · replace c10 := Bool.eq_false_iff.mpr c10
        subst c10
        have H1 : (dragomanlaw01_UcsPlanes.j0 k a2 a3 false) = some r := by rw [if_neg (show ¬ (false = true) by decide)] at H; exact H
        clear H
        have H := H1
        clear H1
        have H' := Aside0.mk H
        clear H
        go_wp2_with (first | ((with_reducible refine gate_callee (f := 18) rfl ?_); refine goesL_ (some 18) rfl rfl Tryd.func18 (by kernel_rfl) rfl #[.int .i32 a0] rfl (by (try simp only [List.map_toArray, List.map_cons, List.map_nil]); first | done | rfl | (simp only [List.length_drop, List.length_take]; rfl)) ?_; (with_reducible refine (ucs_Scalar.calls a0 false _ A9.out).mono ?_); rintro e w' ⟨rfl, ⟨nd, rfl⟩⟩; refine ⟨_, rfl, ?_⟩))
        go_meet
        case rel => exact ⟨_, (false), (by first | rfl | (simp; done) | (simp [*]; done)), H', ⟨by first | omega | exact Nat.le_refl _⟩, ⟨by repeat (first | (with_reducible first | exact HB.out | apply below_alloc | apply pw_below_drewN | apply below_drew1) | exact HB.out)⟩⟩
    case rest =>
      clear HC7
      try clear c1
      try clear p2
      try clear c6
      try clear c7
      try clear c10
      try clear c12
      try clear c13
      try clear c13b0
      try clear c14
      obtain ⟨kq, x34_6, rfl, HA, HJ6, HB⟩ := hcut
      cases kq with
      | zero => exact absurd HA.out (by simp [dragomanlaw01_UcsPlanes.j0])
      | succ kj6 =>
        have H := HA.out
        clear HA
        simp only [dragomanlaw01_UcsPlanes.j0] at H
        by_cases c16 : x34_6 = true
        · subst c16
          have H1 : (some false) = some r := by rw [if_pos rfl] at H; exact H
          clear H
          have H := H1
          clear H1
          obtain rfl := Option.some.inj H
          go_wp2
          go_ret
          exact ⟨by first | rfl | (simp [errW_none, errW_some] <;> rfl) | (simp [*, errW_none, errW_some] <;> rfl), by repeat (first | (with_reducible first | exact HB.out | apply below_alloc | apply pw_below_drewN | apply below_drew1) | exact HB.out)⟩
        · replace c16 := Bool.eq_false_iff.mpr c16
          subst c16
          have H1 : ((ucs_Join.f a2 a3).bind fun bt174 => (if bt174.2 = true then ((ucs_Join.f a2 (wrap32 (a3 + 1))).bind fun bt176 => ((ucs_Join.f (wrap32 (a2 + 1)) a3).bind fun bt178 => ((ucs_Plane.f bt174.1).bind fun t180 => (if t180 ≥ 1 then ((ucs_Plane.f bt174.1).bind fun t181 => (if t181 ≤ 16 then (if bt176.2 = true then (if bt176.1 = (wrap32 (bt174.1 + 1)) then (if bt178.2 = true then (some (bt178.1 == (wrap32 (bt174.1 + 1024)))) else (some true)) else (some false)) else (if bt178.2 = true then (some (bt178.1 == (wrap32 (bt174.1 + 1024)))) else (some true))) else (some false))) else (some false))))) else (some true))) = some r := by rw [if_neg (show ¬ (false = true) by decide)] at H; exact H
          clear H
          have H := H1
          clear H1
          replace H := Option.bind_eq_some_iff.mp H
          obtain ⟨⟨t174, t175⟩, A170, H⟩ := H
          replace H : (if t175 = true then ((ucs_Join.f a2 (wrap32 (a3 + 1))).bind fun bt176 => ((ucs_Join.f (wrap32 (a2 + 1)) a3).bind fun bt178 => ((ucs_Plane.f t174).bind fun t180 => (if t180 ≥ 1 then ((ucs_Plane.f t174).bind fun t181 => (if t181 ≤ 16 then (if bt176.2 = true then (if bt176.1 = (wrap32 (t174 + 1)) then (if bt178.2 = true then (some (bt178.1 == (wrap32 (t174 + 1024)))) else (some true)) else (some false)) else (if bt178.2 = true then (some (bt178.1 == (wrap32 (t174 + 1024)))) else (some true))) else (some false))) else (some false))))) else (some true)) = some r := H
          have A17 := Aside0.mk A170
          clear A170
          by_cases c18 : t175 = true
          · subst c18
            have H1 : ((ucs_Join.f a2 (wrap32 (a3 + 1))).bind fun bt176 => ((ucs_Join.f (wrap32 (a2 + 1)) a3).bind fun bt178 => ((ucs_Plane.f t174).bind fun t180 => (if t180 ≥ 1 then ((ucs_Plane.f t174).bind fun t181 => (if t181 ≤ 16 then (if bt176.2 = true then (if bt176.1 = (wrap32 (t174 + 1)) then (if bt178.2 = true then (some (bt178.1 == (wrap32 (t174 + 1024)))) else (some true)) else (some false)) else (if bt178.2 = true then (some (bt178.1 == (wrap32 (t174 + 1024)))) else (some true))) else (some false))) else (some false))))) = some r := by rw [if_pos rfl] at H; exact H
            clear H
            have H := H1
            clear H1
            replace H := Option.bind_eq_some_iff.mp H
            obtain ⟨⟨t176, t177⟩, A190, H⟩ := H
            replace H : ((ucs_Join.f (wrap32 (a2 + 1)) a3).bind fun bt178 => ((ucs_Plane.f t174).bind fun t180 => (if t180 ≥ 1 then ((ucs_Plane.f t174).bind fun t181 => (if t181 ≤ 16 then (if t177 = true then (if t176 = (wrap32 (t174 + 1)) then (if bt178.2 = true then (some (bt178.1 == (wrap32 (t174 + 1024)))) else (some true)) else (some false)) else (if bt178.2 = true then (some (bt178.1 == (wrap32 (t174 + 1024)))) else (some true))) else (some false))) else (some false)))) = some r := H
            have A19 := Aside0.mk A190
            clear A190
            replace H := Option.bind_eq_some_iff.mp H
            obtain ⟨⟨t178, t179⟩, A200, H⟩ := H
            replace H : ((ucs_Plane.f t174).bind fun t180 => (if t180 ≥ 1 then ((ucs_Plane.f t174).bind fun t181 => (if t181 ≤ 16 then (if t177 = true then (if t176 = (wrap32 (t174 + 1)) then (if t179 = true then (some (t178 == (wrap32 (t174 + 1024)))) else (some true)) else (some false)) else (if t179 = true then (some (t178 == (wrap32 (t174 + 1024)))) else (some true))) else (some false))) else (some false))) = some r := H
            have A20 := Aside0.mk A200
            clear A200
            replace H := Option.bind_eq_some_iff.mp H
            obtain ⟨t180, A210, H⟩ := H
            replace H : (if t180 ≥ 1 then ((ucs_Plane.f t174).bind fun t181 => (if t181 ≤ 16 then (if t177 = true then (if t176 = (wrap32 (t174 + 1)) then (if t179 = true then (some (t178 == (wrap32 (t174 + 1024)))) else (some true)) else (some false)) else (if t179 = true then (some (t178 == (wrap32 (t174 + 1024)))) else (some true))) else (some false))) else (some false)) = some r := H
            have A21 := Aside0.mk A210
            clear A210
            by_cases c22 : t180 ≥ 1
            · rw [if_pos c22] at H
              have c22b0 : decide (1 ≤ t180) = true := decide_eq_true c22
              clear c22
              replace H := Option.bind_eq_some_iff.mp H
              obtain ⟨t181, A230, H⟩ := H
              replace H : (if t181 ≤ 16 then (if t177 = true then (if t176 = (wrap32 (t174 + 1)) then (if t179 = true then (some (t178 == (wrap32 (t174 + 1024)))) else (some true)) else (some false)) else (if t179 = true then (some (t178 == (wrap32 (t174 + 1024)))) else (some true))) else (some false)) = some r := H
              have A23 := Aside0.mk A230
              clear A230
              by_cases c24 : t181 ≤ 16
              · rw [if_pos c24] at H
                have c24b0 : decide (t181 ≤ 16) = true := decide_eq_true c24
                clear c24
                by_cases c25 : t177 = true
                · subst c25
                  have H1 : (if t176 = (wrap32 (t174 + 1)) then (if t179 = true then (some (t178 == (wrap32 (t174 + 1024)))) else (some true)) else (some false)) = some r := by rw [if_pos rfl] at H; exact H
                  clear H
                  have H := H1
                  clear H1
                  by_cases c26 : t176 = (wrap32 (t174 + 1))
                  · rw [if_pos c26] at H
                    have c26b0 : (t176 == (wrap32 (t174 + 1))) = true := beq_iff_eq.mpr c26
                    have c26b1 : (t176 != (wrap32 (t174 + 1))) = false := bne_eq_false_iff_eq.mpr c26
                    clear c26
                    by_cases c27 : t179 = true
                    · subst c27
                      have H1 : (some (t178 == (wrap32 (t174 + 1024)))) = some r := by rw [if_pos rfl] at H; exact H
                      clear H
                      have H := H1
                      clear H1
                      obtain rfl := Option.some.inj H
                      go_wp2_with (first | ((with_reducible refine gate_callee (f := 8) rfl ?_); refine goesL_ (some 38) rfl rfl Tryd.func8 (by kernel_rfl) rfl #[.int .i32 a2, .int .i32 a3] rfl (by (try simp only [List.map_toArray, List.map_cons, List.map_nil]); first | done | rfl | (simp only [List.length_drop, List.length_take]; rfl)) ?_; (with_reducible refine (ucs_Join.calls a2 a3 t174 true _ A17.out).mono ?_); rintro e w' ⟨rfl, ⟨nd, rfl⟩⟩; refine ⟨_, rfl, ?_⟩) | ((with_reducible refine gate_callee (f := 8) rfl ?_); refine goesL_ (some 47) rfl rfl Tryd.func8 (by kernel_rfl) rfl #[.int .i32 a2, .int .i32 (wrap32 (a3 + 1))] rfl (by (try simp only [List.map_toArray, List.map_cons, List.map_nil]); first | done | rfl | (simp only [List.length_drop, List.length_take]; rfl)) ?_; (with_reducible refine (ucs_Join.calls a2 (wrap32 (a3 + 1)) t176 true _ A19.out).mono ?_); rintro e w' ⟨rfl, ⟨nd, rfl⟩⟩; refine ⟨_, rfl, ?_⟩) | ((with_reducible refine gate_callee (f := 8) rfl ?_); refine goesL_ (some 54) rfl rfl Tryd.func8 (by kernel_rfl) rfl #[.int .i32 (wrap32 (a2 + 1)), .int .i32 a3] rfl (by (try simp only [List.map_toArray, List.map_cons, List.map_nil]); first | done | rfl | (simp only [List.length_drop, List.length_take]; rfl)) ?_; (with_reducible refine (ucs_Join.calls (wrap32 (a2 + 1)) a3 t178 true _ A20.out).mono ?_); rintro e w' ⟨rfl, ⟨nd, rfl⟩⟩; refine ⟨_, rfl, ?_⟩) | ((with_reducible refine gate_callee (f := 17) rfl ?_); refine goesL_ (some 58) rfl rfl Tryd.func17 (by kernel_rfl) rfl #[.int .i32 t174] rfl (by (try simp only [List.map_toArray, List.map_cons, List.map_nil]); first | done | rfl | (simp only [List.length_drop, List.length_take]; rfl)) ?_; (with_reducible refine (ucs_Plane.calls t174 t180 _ A21.out).mono ?_); rintro e w' ⟨rfl, ⟨nd, rfl⟩⟩; refine ⟨_, rfl, ?_⟩) | (go_at_call 17; (with_reducible refine (ucs_Plane.calls t174 t181 _ A23.out).mono ?_); rintro e w' ⟨rfl, ⟨nd, rfl⟩⟩))
                      go_ret
                      exact ⟨by first | rfl | (simp [errW_none, errW_some] <;> rfl) | (simp [*, errW_none, errW_some] <;> rfl), by repeat (first | (with_reducible first | exact HB.out | apply below_alloc | apply pw_below_drewN | apply below_drew1) | exact HB.out)⟩
                    · replace c27 := Bool.eq_false_iff.mpr c27
                      subst c27
                      have H1 : (some true) = some r := by rw [if_neg (show ¬ (false = true) by decide)] at H; exact H
                      clear H
                      have H := H1
                      clear H1
                      obtain rfl := Option.some.inj H
                      go_wp2_with (first | ((with_reducible refine gate_callee (f := 8) rfl ?_); refine goesL_ (some 38) rfl rfl Tryd.func8 (by kernel_rfl) rfl #[.int .i32 a2, .int .i32 a3] rfl (by (try simp only [List.map_toArray, List.map_cons, List.map_nil]); first | done | rfl | (simp only [List.length_drop, List.length_take]; rfl)) ?_; (with_reducible refine (ucs_Join.calls a2 a3 t174 true _ A17.out).mono ?_); rintro e w' ⟨rfl, ⟨nd, rfl⟩⟩; refine ⟨_, rfl, ?_⟩) | ((with_reducible refine gate_callee (f := 8) rfl ?_); refine goesL_ (some 47) rfl rfl Tryd.func8 (by kernel_rfl) rfl #[.int .i32 a2, .int .i32 (wrap32 (a3 + 1))] rfl (by (try simp only [List.map_toArray, List.map_cons, List.map_nil]); first | done | rfl | (simp only [List.length_drop, List.length_take]; rfl)) ?_; (with_reducible refine (ucs_Join.calls a2 (wrap32 (a3 + 1)) t176 true _ A19.out).mono ?_); rintro e w' ⟨rfl, ⟨nd, rfl⟩⟩; refine ⟨_, rfl, ?_⟩) | ((with_reducible refine gate_callee (f := 8) rfl ?_); refine goesL_ (some 54) rfl rfl Tryd.func8 (by kernel_rfl) rfl #[.int .i32 (wrap32 (a2 + 1)), .int .i32 a3] rfl (by (try simp only [List.map_toArray, List.map_cons, List.map_nil]); first | done | rfl | (simp only [List.length_drop, List.length_take]; rfl)) ?_; (with_reducible refine (ucs_Join.calls (wrap32 (a2 + 1)) a3 t178 false _ A20.out).mono ?_); rintro e w' ⟨rfl, ⟨nd, rfl⟩⟩; refine ⟨_, rfl, ?_⟩) | ((with_reducible refine gate_callee (f := 17) rfl ?_); refine goesL_ (some 58) rfl rfl Tryd.func17 (by kernel_rfl) rfl #[.int .i32 t174] rfl (by (try simp only [List.map_toArray, List.map_cons, List.map_nil]); first | done | rfl | (simp only [List.length_drop, List.length_take]; rfl)) ?_; (with_reducible refine (ucs_Plane.calls t174 t180 _ A21.out).mono ?_); rintro e w' ⟨rfl, ⟨nd, rfl⟩⟩; refine ⟨_, rfl, ?_⟩) | (go_at_call 17; (with_reducible refine (ucs_Plane.calls t174 t181 _ A23.out).mono ?_); rintro e w' ⟨rfl, ⟨nd, rfl⟩⟩))
                      go_ret
                      exact ⟨by first | rfl | (simp [errW_none, errW_some] <;> rfl) | (simp [*, errW_none, errW_some] <;> rfl), by repeat (first | (with_reducible first | exact HB.out | apply below_alloc | apply pw_below_drewN | apply below_drew1) | exact HB.out)⟩
                  · rw [if_neg c26] at H
                    have c26b0 : (t176 == (wrap32 (t174 + 1))) = false := beq_eq_false_iff_ne.mpr c26
                    have c26b1 : (t176 != (wrap32 (t174 + 1))) = true := bne_iff_ne.mpr c26
                    obtain rfl := Option.some.inj H
                    go_wp2_with (first | ((with_reducible refine gate_callee (f := 8) rfl ?_); refine goesL_ (some 38) rfl rfl Tryd.func8 (by kernel_rfl) rfl #[.int .i32 a2, .int .i32 a3] rfl (by (try simp only [List.map_toArray, List.map_cons, List.map_nil]); first | done | rfl | (simp only [List.length_drop, List.length_take]; rfl)) ?_; (with_reducible refine (ucs_Join.calls a2 a3 t174 true _ A17.out).mono ?_); rintro e w' ⟨rfl, ⟨nd, rfl⟩⟩; refine ⟨_, rfl, ?_⟩) | ((with_reducible refine gate_callee (f := 8) rfl ?_); refine goesL_ (some 47) rfl rfl Tryd.func8 (by kernel_rfl) rfl #[.int .i32 a2, .int .i32 (wrap32 (a3 + 1))] rfl (by (try simp only [List.map_toArray, List.map_cons, List.map_nil]); first | done | rfl | (simp only [List.length_drop, List.length_take]; rfl)) ?_; (with_reducible refine (ucs_Join.calls a2 (wrap32 (a3 + 1)) t176 true _ A19.out).mono ?_); rintro e w' ⟨rfl, ⟨nd, rfl⟩⟩; refine ⟨_, rfl, ?_⟩) | ((with_reducible refine gate_callee (f := 8) rfl ?_); refine goesL_ (some 54) rfl rfl Tryd.func8 (by kernel_rfl) rfl #[.int .i32 (wrap32 (a2 + 1)), .int .i32 a3] rfl (by (try simp only [List.map_toArray, List.map_cons, List.map_nil]); first | done | rfl | (simp only [List.length_drop, List.length_take]; rfl)) ?_; (with_reducible refine (ucs_Join.calls (wrap32 (a2 + 1)) a3 t178 t179 _ A20.out).mono ?_); rintro e w' ⟨rfl, ⟨nd, rfl⟩⟩; refine ⟨_, rfl, ?_⟩) | ((with_reducible refine gate_callee (f := 17) rfl ?_); refine goesL_ (some 58) rfl rfl Tryd.func17 (by kernel_rfl) rfl #[.int .i32 t174] rfl (by (try simp only [List.map_toArray, List.map_cons, List.map_nil]); first | done | rfl | (simp only [List.length_drop, List.length_take]; rfl)) ?_; (with_reducible refine (ucs_Plane.calls t174 t180 _ A21.out).mono ?_); rintro e w' ⟨rfl, ⟨nd, rfl⟩⟩; refine ⟨_, rfl, ?_⟩) | (go_at_call 17; (with_reducible refine (ucs_Plane.calls t174 t181 _ A23.out).mono ?_); rintro e w' ⟨rfl, ⟨nd, rfl⟩⟩))
                    go_ret
                    exact ⟨by first | rfl | (simp [errW_none, errW_some] <;> rfl) | (simp [*, errW_none, errW_some] <;> rfl), by repeat (first | (with_reducible first | exact HB.out | apply below_alloc | apply pw_below_drewN | apply below_drew1) | exact HB.out)⟩
                · replace c25 := Bool.eq_false_iff.mpr c25
                  subst c25
                  have H1 : (if t179 = true then (some (t178 == (wrap32 (t174 + 1024)))) else (some true)) = some r := by rw [if_neg (show ¬ (false = true) by decide)] at H; exact H
                  clear H
                  have H := H1
                  clear H1
                  by_cases c28 : t179 = true
                  · subst c28
                    have H1 : (some (t178 == (wrap32 (t174 + 1024)))) = some r := by rw [if_pos rfl] at H; exact H
                    clear H
                    have H := H1
                    clear H1
                    obtain rfl := Option.some.inj H
                    go_wp2_with (first | ((with_reducible refine gate_callee (f := 8) rfl ?_); refine goesL_ (some 38) rfl rfl Tryd.func8 (by kernel_rfl) rfl #[.int .i32 a2, .int .i32 a3] rfl (by (try simp only [List.map_toArray, List.map_cons, List.map_nil]); first | done | rfl | (simp only [List.length_drop, List.length_take]; rfl)) ?_; (with_reducible refine (ucs_Join.calls a2 a3 t174 true _ A17.out).mono ?_); rintro e w' ⟨rfl, ⟨nd, rfl⟩⟩; refine ⟨_, rfl, ?_⟩) | ((with_reducible refine gate_callee (f := 8) rfl ?_); refine goesL_ (some 47) rfl rfl Tryd.func8 (by kernel_rfl) rfl #[.int .i32 a2, .int .i32 (wrap32 (a3 + 1))] rfl (by (try simp only [List.map_toArray, List.map_cons, List.map_nil]); first | done | rfl | (simp only [List.length_drop, List.length_take]; rfl)) ?_; (with_reducible refine (ucs_Join.calls a2 (wrap32 (a3 + 1)) t176 false _ A19.out).mono ?_); rintro e w' ⟨rfl, ⟨nd, rfl⟩⟩; refine ⟨_, rfl, ?_⟩) | ((with_reducible refine gate_callee (f := 8) rfl ?_); refine goesL_ (some 54) rfl rfl Tryd.func8 (by kernel_rfl) rfl #[.int .i32 (wrap32 (a2 + 1)), .int .i32 a3] rfl (by (try simp only [List.map_toArray, List.map_cons, List.map_nil]); first | done | rfl | (simp only [List.length_drop, List.length_take]; rfl)) ?_; (with_reducible refine (ucs_Join.calls (wrap32 (a2 + 1)) a3 t178 true _ A20.out).mono ?_); rintro e w' ⟨rfl, ⟨nd, rfl⟩⟩; refine ⟨_, rfl, ?_⟩) | ((with_reducible refine gate_callee (f := 17) rfl ?_); refine goesL_ (some 58) rfl rfl Tryd.func17 (by kernel_rfl) rfl #[.int .i32 t174] rfl (by (try simp only [List.map_toArray, List.map_cons, List.map_nil]); first | done | rfl | (simp only [List.length_drop, List.length_take]; rfl)) ?_; (with_reducible refine (ucs_Plane.calls t174 t180 _ A21.out).mono ?_); rintro e w' ⟨rfl, ⟨nd, rfl⟩⟩; refine ⟨_, rfl, ?_⟩) | (go_at_call 17; (with_reducible refine (ucs_Plane.calls t174 t181 _ A23.out).mono ?_); rintro e w' ⟨rfl, ⟨nd, rfl⟩⟩))
                    go_ret
                    exact ⟨by first | rfl | (simp [errW_none, errW_some] <;> rfl) | (simp [*, errW_none, errW_some] <;> rfl), by repeat (first | (with_reducible first | exact HB.out | apply below_alloc | apply pw_below_drewN | apply below_drew1) | exact HB.out)⟩
                  · replace c28 := Bool.eq_false_iff.mpr c28
                    subst c28
                    have H1 : (some true) = some r := by rw [if_neg (show ¬ (false = true) by decide)] at H; exact H
                    clear H
                    have H := H1
                    clear H1
                    obtain rfl := Option.some.inj H
                    go_wp2_with (first | ((with_reducible refine gate_callee (f := 8) rfl ?_); refine goesL_ (some 38) rfl rfl Tryd.func8 (by kernel_rfl) rfl #[.int .i32 a2, .int .i32 a3] rfl (by (try simp only [List.map_toArray, List.map_cons, List.map_nil]); first | done | rfl | (simp only [List.length_drop, List.length_take]; rfl)) ?_; (with_reducible refine (ucs_Join.calls a2 a3 t174 true _ A17.out).mono ?_); rintro e w' ⟨rfl, ⟨nd, rfl⟩⟩; refine ⟨_, rfl, ?_⟩) | ((with_reducible refine gate_callee (f := 8) rfl ?_); refine goesL_ (some 47) rfl rfl Tryd.func8 (by kernel_rfl) rfl #[.int .i32 a2, .int .i32 (wrap32 (a3 + 1))] rfl (by (try simp only [List.map_toArray, List.map_cons, List.map_nil]); first | done | rfl | (simp only [List.length_drop, List.length_take]; rfl)) ?_; (with_reducible refine (ucs_Join.calls a2 (wrap32 (a3 + 1)) t176 false _ A19.out).mono ?_); rintro e w' ⟨rfl, ⟨nd, rfl⟩⟩; refine ⟨_, rfl, ?_⟩) | ((with_reducible refine gate_callee (f := 8) rfl ?_); refine goesL_ (some 54) rfl rfl Tryd.func8 (by kernel_rfl) rfl #[.int .i32 (wrap32 (a2 + 1)), .int .i32 a3] rfl (by (try simp only [List.map_toArray, List.map_cons, List.map_nil]); first | done | rfl | (simp only [List.length_drop, List.length_take]; rfl)) ?_; (with_reducible refine (ucs_Join.calls (wrap32 (a2 + 1)) a3 t178 false _ A20.out).mono ?_); rintro e w' ⟨rfl, ⟨nd, rfl⟩⟩; refine ⟨_, rfl, ?_⟩) | ((with_reducible refine gate_callee (f := 17) rfl ?_); refine goesL_ (some 58) rfl rfl Tryd.func17 (by kernel_rfl) rfl #[.int .i32 t174] rfl (by (try simp only [List.map_toArray, List.map_cons, List.map_nil]); first | done | rfl | (simp only [List.length_drop, List.length_take]; rfl)) ?_; (with_reducible refine (ucs_Plane.calls t174 t180 _ A21.out).mono ?_); rintro e w' ⟨rfl, ⟨nd, rfl⟩⟩; refine ⟨_, rfl, ?_⟩) | (go_at_call 17; (with_reducible refine (ucs_Plane.calls t174 t181 _ A23.out).mono ?_); rintro e w' ⟨rfl, ⟨nd, rfl⟩⟩))
                    go_ret
                    exact ⟨by first | rfl | (simp [errW_none, errW_some] <;> rfl) | (simp [*, errW_none, errW_some] <;> rfl), by repeat (first | (with_reducible first | exact HB.out | apply below_alloc | apply pw_below_drewN | apply below_drew1) | exact HB.out)⟩
              · rw [if_neg c24] at H
                have c24b0 : decide (t181 ≤ 16) = false := decide_eq_false c24
                clear c24
                obtain rfl := Option.some.inj H
                go_wp2_with (first | ((with_reducible refine gate_callee (f := 8) rfl ?_); refine goesL_ (some 38) rfl rfl Tryd.func8 (by kernel_rfl) rfl #[.int .i32 a2, .int .i32 a3] rfl (by (try simp only [List.map_toArray, List.map_cons, List.map_nil]); first | done | rfl | (simp only [List.length_drop, List.length_take]; rfl)) ?_; (with_reducible refine (ucs_Join.calls a2 a3 t174 true _ A17.out).mono ?_); rintro e w' ⟨rfl, ⟨nd, rfl⟩⟩; refine ⟨_, rfl, ?_⟩) | ((with_reducible refine gate_callee (f := 8) rfl ?_); refine goesL_ (some 47) rfl rfl Tryd.func8 (by kernel_rfl) rfl #[.int .i32 a2, .int .i32 (wrap32 (a3 + 1))] rfl (by (try simp only [List.map_toArray, List.map_cons, List.map_nil]); first | done | rfl | (simp only [List.length_drop, List.length_take]; rfl)) ?_; (with_reducible refine (ucs_Join.calls a2 (wrap32 (a3 + 1)) t176 t177 _ A19.out).mono ?_); rintro e w' ⟨rfl, ⟨nd, rfl⟩⟩; refine ⟨_, rfl, ?_⟩) | ((with_reducible refine gate_callee (f := 8) rfl ?_); refine goesL_ (some 54) rfl rfl Tryd.func8 (by kernel_rfl) rfl #[.int .i32 (wrap32 (a2 + 1)), .int .i32 a3] rfl (by (try simp only [List.map_toArray, List.map_cons, List.map_nil]); first | done | rfl | (simp only [List.length_drop, List.length_take]; rfl)) ?_; (with_reducible refine (ucs_Join.calls (wrap32 (a2 + 1)) a3 t178 t179 _ A20.out).mono ?_); rintro e w' ⟨rfl, ⟨nd, rfl⟩⟩; refine ⟨_, rfl, ?_⟩) | ((with_reducible refine gate_callee (f := 17) rfl ?_); refine goesL_ (some 58) rfl rfl Tryd.func17 (by kernel_rfl) rfl #[.int .i32 t174] rfl (by (try simp only [List.map_toArray, List.map_cons, List.map_nil]); first | done | rfl | (simp only [List.length_drop, List.length_take]; rfl)) ?_; (with_reducible refine (ucs_Plane.calls t174 t180 _ A21.out).mono ?_); rintro e w' ⟨rfl, ⟨nd, rfl⟩⟩; refine ⟨_, rfl, ?_⟩) | (go_at_call 17; (with_reducible refine (ucs_Plane.calls t174 t181 _ A23.out).mono ?_); rintro e w' ⟨rfl, ⟨nd, rfl⟩⟩))
                go_ret
                exact ⟨by first | rfl | (simp [errW_none, errW_some] <;> rfl) | (simp [*, errW_none, errW_some] <;> rfl), by repeat (first | (with_reducible first | exact HB.out | apply below_alloc | apply pw_below_drewN | apply below_drew1) | exact HB.out)⟩
            · rw [if_neg c22] at H
              have c22b0 : decide (1 ≤ t180) = false := decide_eq_false c22
              clear c22
              obtain rfl := Option.some.inj H
              go_wp2_with (first | ((with_reducible refine gate_callee (f := 8) rfl ?_); refine goesL_ (some 38) rfl rfl Tryd.func8 (by kernel_rfl) rfl #[.int .i32 a2, .int .i32 a3] rfl (by (try simp only [List.map_toArray, List.map_cons, List.map_nil]); first | done | rfl | (simp only [List.length_drop, List.length_take]; rfl)) ?_; (with_reducible refine (ucs_Join.calls a2 a3 t174 true _ A17.out).mono ?_); rintro e w' ⟨rfl, ⟨nd, rfl⟩⟩; refine ⟨_, rfl, ?_⟩) | ((with_reducible refine gate_callee (f := 8) rfl ?_); refine goesL_ (some 47) rfl rfl Tryd.func8 (by kernel_rfl) rfl #[.int .i32 a2, .int .i32 (wrap32 (a3 + 1))] rfl (by (try simp only [List.map_toArray, List.map_cons, List.map_nil]); first | done | rfl | (simp only [List.length_drop, List.length_take]; rfl)) ?_; (with_reducible refine (ucs_Join.calls a2 (wrap32 (a3 + 1)) t176 t177 _ A19.out).mono ?_); rintro e w' ⟨rfl, ⟨nd, rfl⟩⟩; refine ⟨_, rfl, ?_⟩) | ((with_reducible refine gate_callee (f := 8) rfl ?_); refine goesL_ (some 54) rfl rfl Tryd.func8 (by kernel_rfl) rfl #[.int .i32 (wrap32 (a2 + 1)), .int .i32 a3] rfl (by (try simp only [List.map_toArray, List.map_cons, List.map_nil]); first | done | rfl | (simp only [List.length_drop, List.length_take]; rfl)) ?_; (with_reducible refine (ucs_Join.calls (wrap32 (a2 + 1)) a3 t178 t179 _ A20.out).mono ?_); rintro e w' ⟨rfl, ⟨nd, rfl⟩⟩; refine ⟨_, rfl, ?_⟩) | ((with_reducible refine gate_callee (f := 17) rfl ?_); refine goesL_ (some 58) rfl rfl Tryd.func17 (by kernel_rfl) rfl #[.int .i32 t174] rfl (by (try simp only [List.map_toArray, List.map_cons, List.map_nil]); first | done | rfl | (simp only [List.length_drop, List.length_take]; rfl)) ?_; (with_reducible refine (ucs_Plane.calls t174 t180 _ A21.out).mono ?_); rintro e w' ⟨rfl, ⟨nd, rfl⟩⟩; refine ⟨_, rfl, ?_⟩))
              go_ret
              exact ⟨by first | rfl | (simp [errW_none, errW_some] <;> rfl) | (simp [*, errW_none, errW_some] <;> rfl), by repeat (first | (with_reducible first | exact HB.out | apply below_alloc | apply pw_below_drewN | apply below_drew1) | exact HB.out)⟩
          · replace c18 := Bool.eq_false_iff.mpr c18
            subst c18
            have H1 : (some true) = some r := by rw [if_neg (show ¬ (false = true) by decide)] at H; exact H
            clear H
            have H := H1
            clear H1
            obtain rfl := Option.some.inj H
            go_wp2_with (first | ((with_reducible refine gate_callee (f := 8) rfl ?_); refine goesL_ (some 38) rfl rfl Tryd.func8 (by kernel_rfl) rfl #[.int .i32 a2, .int .i32 a3] rfl (by (try simp only [List.map_toArray, List.map_cons, List.map_nil]); first | done | rfl | (simp only [List.length_drop, List.length_take]; rfl)) ?_; (with_reducible refine (ucs_Join.calls a2 a3 t174 false _ A17.out).mono ?_); rintro e w' ⟨rfl, ⟨nd, rfl⟩⟩; refine ⟨_, rfl, ?_⟩))
            go_ret
            exact ⟨by first | rfl | (simp [errW_none, errW_some] <;> rfl) | (simp [*, errW_none, errW_some] <;> rfl), by repeat (first | (with_reducible first | exact HB.out | apply below_alloc | apply pw_below_drewN | apply below_drew1) | exact HB.out)⟩
  · replace c6 := Bool.eq_false_iff.mpr c6
    subst c6
    have H1 : (some false) = some r := by rw [if_neg (show ¬ (false = true) by decide)] at H; exact H
    clear H
    have H := H1
    clear H1
    obtain rfl := Option.some.inj H
    go_enter Tryd.func7, Tryd.ntmps7
    go_wp2_with (first | ((with_reducible refine gate_callee (f := 14) rfl ?_); refine goesL_ (some 15) rfl rfl Tryd.func14 (by kernel_rfl) rfl #[] rfl (by (try simp only [List.map_toArray, List.map_cons, List.map_nil]); first | done | rfl | (simp only [List.length_drop, List.length_take]; rfl)) ?_; (with_reducible refine (dragomanlaw01_works.calls k  false _ A5.out (by first | exact hT | exact Uc.Tab.below hT (by repeat (first | (with_reducible first | exact HB.out | exact Below.refl _ _ | apply below_alloc | apply pw_below_drewN | apply below_drew1) | exact HB.out)))).mono ?_); rintro e w29 ⟨rfl, hb⟩; refine ⟨_, rfl, ?_⟩; have n0_ := Aside0.mk (below_step (by repeat (first | (with_reducible first | exact HB.out | apply below_alloc | apply pw_below_drewN | apply below_drew1) | exact HB.out)) hb); clear HB; have HB := n0_; clear n0_; (try clear hb); (try clear hb2); (try clear hk); (try clear hi)))
    go_ret
    exact ⟨by first | rfl | (simp [errW_none, errW_some] <;> rfl) | (simp [*, errW_none, errW_some] <;> rfl), by repeat (first | (with_reducible first | exact HB.out | apply below_alloc | apply pw_below_drewN | apply below_drew1) | exact HB.out)⟩

/-- THE ONE PURE STATEMENT of dragomanlaw01_UcsPlanes: yours. -/
def dragomanlaw01_UcsPlanes.Pure : Prop := ∀ (a0 : Int) (a1 : Int) (a2 : Int) (a3 : Int), (Lit.int .i32 a0).wf = true → (Lit.int .i32 a1).wf = true → (Lit.int .i32 a2).wf = true → (Lit.int .i32 a3).wf = true → ∃ k, dragomanlaw01_UcsPlanes.f k a0 a1 a2 a3 = some true
theorem dragomanlaw01_UcsPlanes.walk (P : dragomanlaw01_UcsPlanes.Pure) (a0 : Int) (a1 : Int) (a2 : Int) (a3 : Int) (w : World) (w0 : (Lit.int .i32 a0).wf = true) (w1 : (Lit.int .i32 a1).wf = true) (w2 : (Lit.int .i32 a2).wf = true) (w3 : (Lit.int .i32 a3).wf = true) (hT : Uc.Tab w) :
    Calls Tryd.prog 7 #[.int .i32 a0, .int .i32 a1, .int .i32 a2, .int .i32 a3] w fun e w' => e = .returned (.bool true) ∧ Below w.heap.size w w' := by
  obtain ⟨k, h⟩ := P a0 a1 a2 a3 w0 w1 w2 w3
  refine (dragomanlaw01_UcsPlanes.calls k a0 a1 a2 a3 true w h hT).mono ?_
  rintro e w' ⟨rfl, hd⟩
  exact ⟨rfl, hd⟩

end Go.Proofs.YtegogeglofikhaaDoor.PUcsPlanes
