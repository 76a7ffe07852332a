/- UcsBack: what the functions answer, and their walks; what is not printed is given by YtegogeglofikhaaDoorGUcsBack. Written by a program of ours over the print. -/
import Derived.Test.YtegogeglofikhaaDoorPUcsBackx0
import Derived.Test.YtegogeglofikhaaDoorPUcsBackx1
import Derived.Test.YtegogeglofikhaaDoorGUcsBack
namespace Go.Proofs.YtegogeglofikhaaDoor.PUcsBack
open Go.Proofs.YtegogeglofikhaaDoor
open Go.RowKit Go.Proofs.YtegogeglofikhaaDoorW.PrintWords Go.Proofs.YtegogeglofikhaaDoorW.PrintLast Go.Proofs.YtegogeglofikhaaDoorW.PrintMore
attribute [local go_sem] max2_int min2_int max_two min_two max_three min_three max_four min_four   -- for this text's walks alone
set_option linter.unusedVariables false
set_option linter.unusedSimpArgs false

/-! ### dragomanlaw01_works: function 14 -/
def dragomanlaw01_works.f (k : Nat)  : Option (Bool) := (ucs_Join.f 55357 56832).bind fun bt166 => (if bt166.1 = 128512 then (if bt166.2 = true then ((ucs_Scalar.f 55296).bind fun t168 => (if t168 = true then (some false) else ((ucs_Scalar.f 1114111).bind fun t169 => (if t169 = true then ((ucs_Hex.f k 65).bind fun t170 => (some (t170.toList == ([85, 43, 48, 48, 52, 49] : List UInt8)))) else (some false))))) else (some false)) else (some false))
theorem dragomanlaw01_works.mono : ∀ k, LeO (dragomanlaw01_works.f k ) (dragomanlaw01_works.f (k + 1) ) := by
  intro  k
  unfold dragomanlaw01_works.f
  repeat' first
      | (with_reducible exact ucs_Hex.mono _ _)
      | (with_reducible exact LeO.refl _)
      | (with_reducible exact LeO.none _)
      | (with_reducible refine LeO.ite ?_ ?_)
      | (with_reducible refine LeO.bind ?_ (fun _ => ?_))
      | exact ucs_Hex.mono _ _
      | exact LeO.none _
      | refine LeO.ite ?_ ?_
      | refine LeO.bind ?_ (fun _ => ?_)
set_option maxHeartbeats 8000000 in
set_option maxRecDepth 100000 in
theorem dragomanlaw01_works.calls (k : Nat)  (r : Bool) (w : World) (h : dragomanlaw01_works.f k  = some r) (hT : Uc.Tab w) :
    Calls Tryd.prog 14 #[] w fun e w' => e = .returned (.bool r) ∧ Below w.heap.size w w' := by
  have HB := Aside0.mk (Below.refl w.heap.size w)
  have H : ((ucs_Join.f 55357 56832).bind fun bt166 => (if bt166.1 = 128512 then (if bt166.2 = true then ((ucs_Scalar.f 55296).bind fun t168 => (if t168 = true then (some false) else ((ucs_Scalar.f 1114111).bind fun t169 => (if t169 = true then ((ucs_Hex.f k 65).bind fun t170 => (some (t170.toList == ([85, 43, 48, 48, 52, 49] : List UInt8)))) else (some false))))) else (some false)) else (some false))) = some r := h
  clear h
  replace H := Option.bind_eq_some_iff.mp H
  obtain ⟨⟨t166, t167⟩, A10, H⟩ := H
  replace H : (if t166 = 128512 then (if t167 = true then ((ucs_Scalar.f 55296).bind fun t168 => (if t168 = true then (some false) else ((ucs_Scalar.f 1114111).bind fun t169 => (if t169 = true then ((ucs_Hex.f k 65).bind fun t170 => (some (t170.toList == ([85, 43, 48, 48, 52, 49] : List UInt8)))) else (some false))))) else (some false)) else (some false)) = some r := H
  have A1 := Aside0.mk A10
  clear A10
  by_cases c2 : t166 = 128512
  · rw [if_pos c2] at H
    have c2b0 : (t166 == 128512) = true := beq_iff_eq.mpr c2
    have c2b1 : (t166 != 128512) = false := bne_eq_false_iff_eq.mpr c2
    clear c2
    by_cases c3 : t167 = true
    · subst c3
      have H1 : ((ucs_Scalar.f 55296).bind fun t168 => (if t168 = true then (some false) else ((ucs_Scalar.f 1114111).bind fun t169 => (if t169 = true then ((ucs_Hex.f k 65).bind fun t170 => (some (t170.toList == ([85, 43, 48, 48, 52, 49] : List UInt8)))) else (some false))))) = some r := by rw [if_pos rfl] at H; exact H
      clear H
      have H := H1
      clear H1
      replace H := Option.bind_eq_some_iff.mp H
      obtain ⟨t168, A40, H⟩ := H
      replace H : (if t168 = true then (some false) else ((ucs_Scalar.f 1114111).bind fun t169 => (if t169 = true then ((ucs_Hex.f k 65).bind fun t170 => (some (t170.toList == ([85, 43, 48, 48, 52, 49] : List UInt8)))) else (some false)))) = some r := H
      have A4 := Aside0.mk A40
      clear A40
      by_cases c5 : t168 = true
      · subst c5
        have H1 : (some false) = some r := by rw [if_pos rfl] at H; exact H
        clear H
        have H := H1
        clear H1
        obtain rfl := Option.some.inj H
        go_enter Tryd.func14, Tryd.ntmps14
        go_wp2_with (first | ((with_reducible refine gate_callee (f := 8) rfl ?_); refine goesL_ (some 4) rfl rfl Tryd.func8 (by kernel_rfl) rfl #[.int .i32 55357, .int .i32 56832] rfl (by (try simp only [List.map_toArray, List.map_cons, List.map_nil]); first | done | rfl | (simp only [List.length_drop, List.length_take]; rfl)) ?_; (with_reducible refine (ucs_Join.calls 55357 56832 t166 true _ A1.out).mono ?_); rintro e w' ⟨rfl, ⟨nd, rfl⟩⟩; refine ⟨_, rfl, ?_⟩) | (go_at_call 18; (with_reducible refine (ucs_Scalar.calls 55296 true _ A4.out).mono ?_); rintro e w' ⟨rfl, ⟨nd, rfl⟩⟩))
        go_ret
        exact ⟨by first | rfl | (simp [errW_none, errW_some] <;> rfl) | (simp [*, errW_none, errW_some] <;> rfl), by repeat (first | (with_reducible first | exact HB.out | apply below_alloc | apply pw_below_drewN | apply below_drew1) | exact HB.out)⟩
      · replace c5 := Bool.eq_false_iff.mpr c5
        subst c5
        have H1 : ((ucs_Scalar.f 1114111).bind fun t169 => (if t169 = true then ((ucs_Hex.f k 65).bind fun t170 => (some (t170.toList == ([85, 43, 48, 48, 52, 49] : List UInt8)))) else (some false))) = some r := by rw [if_neg (show ¬ (false = true) by decide)] at H; exact H
        clear H
        have H := H1
        clear H1
        replace H := Option.bind_eq_some_iff.mp H
        obtain ⟨t169, A60, H⟩ := H
        replace H : (if t169 = true then ((ucs_Hex.f k 65).bind fun t170 => (some (t170.toList == ([85, 43, 48, 48, 52, 49] : List UInt8)))) else (some false)) = some r := H
        have A6 := Aside0.mk A60
        clear A60
        by_cases c7 : t169 = true
        · subst c7
          have H1 : ((ucs_Hex.f k 65).bind fun t170 => (some (t170.toList == ([85, 43, 48, 48, 52, 49] : List UInt8)))) = some r := by rw [if_pos rfl] at H; exact H
          clear H
          have H := H1
          clear H1
          replace H := Option.bind_eq_some_iff.mp H
          obtain ⟨t170, A80, H⟩ := H
          replace H : (some (t170.toList == ([85, 43, 48, 48, 52, 49] : List UInt8))) = some r := H
          have A8 := Aside0.mk A80
          clear A80
          obtain rfl := Option.some.inj H
          go_enter Tryd.func14, Tryd.ntmps14
          go_wp2_with (first | ((with_reducible refine gate_callee (f := 8) rfl ?_); refine goesL_ (some 4) rfl rfl Tryd.func8 (by kernel_rfl) rfl #[.int .i32 55357, .int .i32 56832] rfl (by (try simp only [List.map_toArray, List.map_cons, List.map_nil]); first | done | rfl | (simp only [List.length_drop, List.length_take]; rfl)) ?_; (with_reducible refine (ucs_Join.calls 55357 56832 t166 true _ A1.out).mono ?_); rintro e w' ⟨rfl, ⟨nd, rfl⟩⟩; refine ⟨_, rfl, ?_⟩) | (go_at_call 18; (with_reducible refine (ucs_Scalar.calls 55296 false _ A4.out).mono ?_); rintro e w' ⟨rfl, ⟨nd, rfl⟩⟩) | (go_at_call 18; (with_reducible refine (ucs_Scalar.calls 1114111 true _ A6.out).mono ?_); rintro e w' ⟨rfl, ⟨nd, rfl⟩⟩) | (go_at_call 19; (with_reducible refine (ucs_Hex.calls k 65 t170 _ A8.out (by first | exact hT | exact Uc.Tab.below hT (by repeat (first | (with_reducible first | exact HB.out | exact Below.refl _ _ | apply below_alloc | apply pw_below_drewN | apply below_drew1) | exact HB.out)))).mono ?_); rintro e w9 ⟨rfl, hb⟩; have n0_ := Aside0.mk (below_step (by repeat (first | (with_reducible first | exact HB.out | apply below_alloc | apply pw_below_drewN | apply below_drew1) | exact HB.out)) hb); clear HB; have HB := n0_; clear n0_; (try clear hb); (try clear hb2); (try clear hk); (try clear hi)))
          go_ret
          exact ⟨by first | rfl | (simp [errW_none, errW_some] <;> rfl) | (simp [*, errW_none, errW_some] <;> rfl), by repeat (first | (with_reducible first | exact HB.out | apply below_alloc | apply pw_below_drewN | apply below_drew1) | exact HB.out)⟩
        · replace c7 := Bool.eq_false_iff.mpr c7
          subst c7
          have H1 : (some false) = some r := by rw [if_neg (show ¬ (false = true) by decide)] at H; exact H
          clear H
          have H := H1
          clear H1
          obtain rfl := Option.some.inj H
          go_enter Tryd.func14, Tryd.ntmps14
          go_wp2_with (first | ((with_reducible refine gate_callee (f := 8) rfl ?_); refine goesL_ (some 4) rfl rfl Tryd.func8 (by kernel_rfl) rfl #[.int .i32 55357, .int .i32 56832] rfl (by (try simp only [List.map_toArray, List.map_cons, List.map_nil]); first | done | rfl | (simp only [List.length_drop, List.length_take]; rfl)) ?_; (with_reducible refine (ucs_Join.calls 55357 56832 t166 true _ A1.out).mono ?_); rintro e w' ⟨rfl, ⟨nd, rfl⟩⟩; refine ⟨_, rfl, ?_⟩) | (go_at_call 18; (with_reducible refine (ucs_Scalar.calls 55296 false _ A4.out).mono ?_); rintro e w' ⟨rfl, ⟨nd, rfl⟩⟩) | (go_at_call 18; (with_reducible refine (ucs_Scalar.calls 1114111 false _ A6.out).mono ?_); rintro e w' ⟨rfl, ⟨nd, rfl⟩⟩))
          go_ret
          exact ⟨by first | rfl | (simp [errW_none, errW_some] <;> rfl) | (simp [*, errW_none, errW_some] <;> rfl), by repeat (first | (with_reducible first | exact HB.out | apply below_alloc | apply pw_below_drewN | apply below_drew1) | exact HB.out)⟩
    · replace c3 := Bool.eq_false_iff.mpr c3
      subst c3
      have H1 : (some false) = some r := by rw [if_neg (show ¬ (false = true) by decide)] at H; exact H
      clear H
      have H := H1
      clear H1
      obtain rfl := Option.some.inj H
      go_enter Tryd.func14, Tryd.ntmps14
      go_wp2_with (first | ((with_reducible refine gate_callee (f := 8) rfl ?_); refine goesL_ (some 4) rfl rfl Tryd.func8 (by kernel_rfl) rfl #[.int .i32 55357, .int .i32 56832] rfl (by (try simp only [List.map_toArray, List.map_cons, List.map_nil]); first | done | rfl | (simp only [List.length_drop, List.length_take]; rfl)) ?_; (with_reducible refine (ucs_Join.calls 55357 56832 t166 false _ A1.out).mono ?_); rintro e w' ⟨rfl, ⟨nd, rfl⟩⟩; refine ⟨_, rfl, ?_⟩))
      go_ret
      exact ⟨by first | rfl | (simp [errW_none, errW_some] <;> rfl) | (simp [*, errW_none, errW_some] <;> rfl), by repeat (first | (with_reducible first | exact HB.out | apply below_alloc | apply pw_below_drewN | apply below_drew1) | exact HB.out)⟩
  · rw [if_neg c2] at H
    have c2b0 : (t166 == 128512) = false := beq_eq_false_iff_ne.mpr c2
    have c2b1 : (t166 != 128512) = true := bne_iff_ne.mpr c2
    obtain rfl := Option.some.inj H
    go_enter Tryd.func14, Tryd.ntmps14
    go_wp2_with (first | ((with_reducible refine gate_callee (f := 8) rfl ?_); refine goesL_ (some 4) rfl rfl Tryd.func8 (by kernel_rfl) rfl #[.int .i32 55357, .int .i32 56832] rfl (by (try simp only [List.map_toArray, List.map_cons, List.map_nil]); first | done | rfl | (simp only [List.length_drop, List.length_take]; rfl)) ?_; (with_reducible refine (ucs_Join.calls 55357 56832 t166 t167 _ A1.out).mono ?_); rintro e w' ⟨rfl, ⟨nd, rfl⟩⟩; refine ⟨_, rfl, ?_⟩))
    go_ret
    exact ⟨by first | rfl | (simp [errW_none, errW_some] <;> rfl) | (simp [*, errW_none, errW_some] <;> rfl), by repeat (first | (with_reducible first | exact HB.out | apply below_alloc | apply pw_below_drewN | apply below_drew1) | exact HB.out)⟩

/-! ### ucs_Plane: function 17 -/
def ucs_Plane.f (a0 : Int) : Option (Int) := (ucs_Scalar.f a0).bind fun t171 => (if t171 = true then (some (wrap64 (a0 / 65536))) else (some (-1)))
set_option maxHeartbeats 8000000 in
set_option maxRecDepth 100000 in
theorem ucs_Plane.calls (a0 : Int) (r : Int) (w : World) (h : ucs_Plane.f a0 = some r) :
    Calls Tryd.prog 17 #[.int .i32 a0] w fun e w' => e = .returned (.int .i64 r) ∧ Drawn0 w w' := by
  have H : ((ucs_Scalar.f a0).bind fun t171 => (if t171 = true then (some (wrap64 (a0 / 65536))) else (some (-1)))) = some r := h
  clear h
  replace H := Option.bind_eq_some_iff.mp H
  obtain ⟨t171, A20, H⟩ := H
  replace H : (if t171 = true then (some (wrap64 (a0 / 65536))) else (some (-1))) = some r := H
  have A2 := Aside0.mk A20
  clear A20
  by_cases c3 : t171 = true
  · subst c3
    have H1 : (some (wrap64 (a0 / 65536))) = some r := by rw [if_pos rfl] at H; exact H
    clear H
    have H := H1
    clear H1
    obtain rfl := Option.some.inj H
    go_enter Tryd.func17, Tryd.ntmps17
    go_wp2_with (first | ((with_reducible refine gate_callee (f := 18) rfl ?_); refine goesL_ (some 4) rfl rfl Tryd.func18 (by kernel_rfl) rfl #[.int .i32 a0] rfl (by (try simp only [List.map_toArray, List.map_cons, List.map_nil]); first | done | rfl | (simp only [List.length_drop, List.length_take]; rfl)) ?_; (with_reducible refine (ucs_Scalar.calls a0 true _ A2.out).mono ?_); rintro e w' ⟨rfl, ⟨nd, rfl⟩⟩; refine ⟨_, rfl, ?_⟩))
    go_ret
    exact ⟨by first | rfl | (simp; done) | (simp [*]; done), by repeat (first | exact Drawn0.refl _ | apply Drawn0.step)⟩
  · replace c3 := Bool.eq_false_iff.mpr c3
    subst c3
    have H1 : (some (-1)) = some r := by rw [if_neg (show ¬ (false = true) by decide)] at H; exact H
    clear H
    have H := H1
    clear H1
    obtain rfl := Option.some.inj H
    go_enter Tryd.func17, Tryd.ntmps17
    go_wp2_with (first | ((with_reducible refine gate_callee (f := 18) rfl ?_); refine goesL_ (some 4) rfl rfl Tryd.func18 (by kernel_rfl) rfl #[.int .i32 a0] rfl (by (try simp only [List.map_toArray, List.map_cons, List.map_nil]); first | done | rfl | (simp only [List.length_drop, List.length_take]; rfl)) ?_; (with_reducible refine (ucs_Scalar.calls a0 false _ A2.out).mono ?_); rintro e w' ⟨rfl, ⟨nd, rfl⟩⟩; refine ⟨_, rfl, ?_⟩))
    go_ret
    exact ⟨by first | rfl | (simp; done) | (simp [*]; done), by repeat (first | exact Drawn0.refl _ | apply Drawn0.step)⟩

end Go.Proofs.YtegogeglofikhaaDoor.PUcsBack
