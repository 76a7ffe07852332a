/- UcsJoins: what the functions answer, and their walks; what is not printed is given by YtegogeglofikhaaDoorGUcsJoins. Written by a program of ours over the print. -/
import Derived.Test.YtegogeglofikhaaDoorPUcsJoinsx0
import Derived.Test.YtegogeglofikhaaDoorPUcsJoinsx1
import Derived.Test.YtegogeglofikhaaDoorPUcsJoinsx2
import Derived.Test.YtegogeglofikhaaDoorGUcsJoins
namespace Go.Proofs.YtegogeglofikhaaDoor.PUcsJoins
open Go.Proofs.YtegogeglofikhaaDoor
open Go.RowKit Go.Proofs.YtegogeglofikhaaDoorW.PrintWords Go.Proofs.YtegogeglofikhaaDoorW.PrintLast Go.Proofs.YtegogeglofikhaaDoorW.PrintMore
attribute [local go_sem] max2_int min2_int max_two min_two max_three min_three max_four min_four   -- for this text's walks alone
set_option linter.unusedVariables false
set_option linter.unusedSimpArgs false

/-! ### dragomanref01_digit: function 27 -/
def dragomanref01_digit.l0 : Nat → Int → Int → Option (Int)
  | 0, _, _ => none
  | k + 1, x0, x3 => if x3 < 16 then (if 0 ≤ x3 then (if (bt (⟨#[48, 49, 50, 51, 52, 53, 54, 55, 56, 57, 65, 66, 67, 68, 69, 70]⟩ : ByteArray) x3) = x0 then (some x3) else (dragomanref01_digit.l0 k x0 (wrap64 (x3 + 1)))) else (none)) else (some (-1))
def dragomanref01_digit.f (k : Nat) (a0 : Int) : Option (Int) := dragomanref01_digit.l0 k a0 0
theorem dragomanref01_digit.mono_l : ∀ k, (∀ y0 y1, LeO (dragomanref01_digit.l0 k y0 y1) (dragomanref01_digit.l0 (k + 1) y0 y1))
  | 0 => fun _ _ r h => by simp [dragomanref01_digit.l0] at h
  | k + 1 => by
    have ih0 := dragomanref01_digit.mono_l k
    · intro y0 y1
      unfold dragomanref01_digit.l0
      repeat' first
      | (with_reducible exact ih0 _ _)
      | (with_reducible exact LeO.refl _)
      | (with_reducible exact LeO.none _)
      | (with_reducible refine LeO.ite ?_ ?_)
      | (with_reducible refine LeO.bind ?_ (fun _ => ?_))
      | exact ih0 _ _
      | exact LeO.none _
      | refine LeO.ite ?_ ?_
      | refine LeO.bind ?_ (fun _ => ?_)
theorem dragomanref01_digit.mono : ∀ a0 k, LeO (dragomanref01_digit.f k a0) (dragomanref01_digit.f (k + 1) a0) := by
  intro a0 k
  have ih0 := dragomanref01_digit.mono_l k
  unfold dragomanref01_digit.f
  repeat' first
      | (with_reducible exact ih0 _ _)
      | (with_reducible exact LeO.refl _)
      | (with_reducible exact LeO.none _)
      | (with_reducible refine LeO.ite ?_ ?_)
      | (with_reducible refine LeO.bind ?_ (fun _ => ?_))
      | exact ih0 _ _
      | exact LeO.none _
      | refine LeO.ite ?_ ?_
      | refine LeO.bind ?_ (fun _ => ?_)
set_option maxHeartbeats 8000000 in
set_option maxRecDepth 100000 in
theorem dragomanref01_digit.calls (k : Nat) (a0 : Int) (r : Int) (w : World) (h : dragomanref01_digit.f k a0 = some r) :
    Calls Tryd.prog 27 #[.int .u8 a0] w fun e w' => e = .returned (.int .i64 r) ∧ Drawn0 w w' := by
  have H : (dragomanref01_digit.l0 k a0 0) = some r := h
  clear h
  have H' := Aside0.mk H
  clear H
  go_enter Tryd.func27, Tryd.ntmps27
  go_wp2
  go_loopg [3] k (fun kq v3 w' => ∃ (x3_1 : Int), v3 = .int .i64 x3_1 ∧ Aside0 (dragomanref01_digit.l0 kq a0 x3_1 = some r) ∧ Aside0 (kq ≤ k) ∧ Drawn0 w w')
  case atStart => exact ⟨(0), (by first | rfl | (simp; done) | (simp [*]; done)), H', ⟨Nat.le_refl _⟩, by repeat (first | exact Drawn0.refl _ | apply Drawn0.step)⟩
  case round =>
    clear H'
    obtain ⟨x3_1, rfl, HA, HK1, ⟨m1, rfl⟩⟩ := hrel
    cases gk with
    | zero => exact absurd HA.out (by simp [dragomanref01_digit.l0])
    | succ k1 =>
      have H := HA.out
      clear HA
      simp only [dragomanref01_digit.l0] at H
      by_cases c2 : x3_1 < 16
      · rw [if_pos c2] at H
        have c2b0 : decide (x3_1 < 16) = true := decide_eq_true c2
        clear c2
        by_cases c3 : 0 ≤ x3_1
        · rw [if_pos c3] at H
          have c3b0 : decide (0 ≤ x3_1) = true := decide_eq_true c3
          clear c3
          by_cases c5 : (bt (⟨#[48, 49, 50, 51, 52, 53, 54, 55, 56, 57, 65, 66, 67, 68, 69, 70]⟩ : ByteArray) x3_1) = a0
          · rw [if_pos c5] at H
            have c5b0 : ((bt (⟨#[48, 49, 50, 51, 52, 53, 54, 55, 56, 57, 65, 66, 67, 68, 69, 70]⟩ : ByteArray) x3_1) == a0) = true := beq_iff_eq.mpr c5
            have c5b1 : ((bt (⟨#[48, 49, 50, 51, 52, 53, 54, 55, 56, 57, 65, 66, 67, 68, 69, 70]⟩ : ByteArray) x3_1) != a0) = false := bne_eq_false_iff_eq.mpr c5
            clear c5
            obtain rfl := Option.some.inj H
            have p4 : 0 ≤ (x3_1 : Int) := of_decide_eq_true (by first | (with_reducible assumption) | assumption)
            have q4 : x3_1 < (16 : Int) := of_decide_eq_true (by first | (with_reducible assumption) | assumption)
            have hx4 := bt_at (⟨#[48, 49, 50, 51, 52, 53, 54, 55, 56, 57, 65, 66, 67, 68, 69, 70]⟩ : ByteArray) x3_1
            replace p4 := eq_true p4
            replace q4 := eq_true q4
            go_wp2
            go_ret
            exact ⟨by first | rfl | (simp; done) | (simp [*]; done), by repeat (first | exact Drawn0.refl _ | apply Drawn0.step)⟩
          · rw [if_neg c5] at H
            have c5b0 : ((bt (⟨#[48, 49, 50, 51, 52, 53, 54, 55, 56, 57, 65, 66, 67, 68, 69, 70]⟩ : ByteArray) x3_1) == a0) = false := beq_eq_false_iff_ne.mpr c5
            have c5b1 : ((bt (⟨#[48, 49, 50, 51, 52, 53, 54, 55, 56, 57, 65, 66, 67, 68, 69, 70]⟩ : ByteArray) x3_1) != a0) = true := bne_iff_ne.mpr c5
            have H' := Aside0.mk H
            clear H
            have p4 : 0 ≤ (x3_1 : Int) := of_decide_eq_true (by first | (with_reducible assumption) | assumption)
            have q4 : x3_1 < (16 : Int) := of_decide_eq_true (by first | (with_reducible assumption) | assumption)
            have hx4 := bt_at (⟨#[48, 49, 50, 51, 52, 53, 54, 55, 56, 57, 65, 66, 67, 68, 69, 70]⟩ : ByteArray) x3_1
            replace p4 := eq_true p4
            replace q4 := eq_true q4
            go_wp2
            go_roundg k1
            case measure => have := HK1.out; omega
            case rel => exact ⟨(wrap64 (x3_1 + 1)), (by first | rfl | (simp; done) | (simp [*]; done)), H', ⟨by have := HK1.out; omega⟩, by repeat (first | exact Drawn0.refl _ | apply Drawn0.step)⟩
        · rw [if_neg c3] at H
          exact absurd H (by simp)
      · rw [if_neg c2] at H
        have c2b0 : decide (x3_1 < 16) = false := decide_eq_false c2
        clear c2
        obtain rfl := Option.some.inj H
        go_wp2
        go_ret
        exact ⟨by first | rfl | (simp; done) | (simp [*]; done), by repeat (first | exact Drawn0.refl _ | apply Drawn0.step)⟩

/-! ### dragomanref01_Parse: function 13 -/
def dragomanref01_Parse.l0 : Nat → ByteArray → Int → Int → Option (Int × Bool)
  | 0, _, _, _ => none
  | k + 1, x0, x4, x5 => if x5 < (x0.size : Int) then (if x5 < 9 then (if 0 ≤ x5 then ((dragomanref01_digit.f k (bt x0 x5)).bind fun t169 => (dragomanref01_Parse.l0 k x0 (wrap64 ((wrap64 (16 * x4)) + (mx 0 t169))) (wrap64 (x5 + 1)))) else (none)) else (if x4 > 1114111 then (some (0, false)) else ((dragomanref01_Hex.f k (wrap32 (x4))).bind fun t170 => (if t170.toList = x0.toList then (if x0.toList = ([] : List UInt8) then (some (0, false)) else (some (wrap32 (x4), true))) else (some (0, false)))))) else (if x4 > 1114111 then (some (0, false)) else ((dragomanref01_Hex.f k (wrap32 (x4))).bind fun t171 => (if t171.toList = x0.toList then (if x0.toList = ([] : List UInt8) then (some (0, false)) else (some (wrap32 (x4), true))) else (some (0, false)))))
def dragomanref01_Parse.f (k : Nat) (a0 : ByteArray) : Option (Int × Bool) := dragomanref01_Parse.l0 k a0 0 2
theorem dragomanref01_Parse.mono_l : ∀ k, (∀ y0 y1 y2, LeO (dragomanref01_Parse.l0 k y0 y1 y2) (dragomanref01_Parse.l0 (k + 1) y0 y1 y2))
  | 0 => fun _ _ _ r h => by simp [dragomanref01_Parse.l0] at h
  | k + 1 => by
    have ih0 := dragomanref01_Parse.mono_l k
    · intro y0 y1 y2
      unfold dragomanref01_Parse.l0
      repeat' first
      | (with_reducible exact ih0 _ _ _)
      | (with_reducible exact dragomanref01_Hex.mono _ _)
      | (with_reducible exact dragomanref01_digit.mono _ _)
      | (with_reducible exact LeO.refl _)
      | (with_reducible exact LeO.none _)
      | (with_reducible refine LeO.ite ?_ ?_)
      | (with_reducible refine LeO.bind ?_ (fun _ => ?_))
      | exact ih0 _ _ _
      | exact dragomanref01_Hex.mono _ _
      | exact dragomanref01_digit.mono _ _
      | exact LeO.none _
      | refine LeO.ite ?_ ?_
      | refine LeO.bind ?_ (fun _ => ?_)
theorem dragomanref01_Parse.mono : ∀ a0 k, LeO (dragomanref01_Parse.f k a0) (dragomanref01_Parse.f (k + 1) a0) := by
  intro a0 k
  have ih0 := dragomanref01_Parse.mono_l k
  unfold dragomanref01_Parse.f
  repeat' first
      | (with_reducible exact ih0 _ _ _)
      | (with_reducible exact dragomanref01_Hex.mono _ _)
      | (with_reducible exact dragomanref01_digit.mono _ _)
      | (with_reducible exact LeO.refl _)
      | (with_reducible exact LeO.none _)
      | (with_reducible refine LeO.ite ?_ ?_)
      | (with_reducible refine LeO.bind ?_ (fun _ => ?_))
      | exact ih0 _ _ _
      | exact dragomanref01_Hex.mono _ _
      | exact dragomanref01_digit.mono _ _
      | exact LeO.none _
      | refine LeO.ite ?_ ?_
      | refine LeO.bind ?_ (fun _ => ?_)
set_option maxHeartbeats 8000000 in
set_option maxRecDepth 100000 in
theorem dragomanref01_Parse.calls (k : Nat) (a0 : ByteArray) (r1 : Int) (r2 : Bool) (w : World) (h : dragomanref01_Parse.f k a0 = some (r1, r2)) :
    Calls Tryd.prog 13 #[.string a0] w fun e w' => e = .returned (.tuple #[.int .i32 r1, .bool r2]) ∧ Below w.heap.size w w' := by
  have HB := Aside0.mk (Below.refl w.heap.size w)
  have H : (dragomanref01_Parse.l0 k a0 0 2) = some (r1, r2) := h
  clear h
  have H' := Aside0.mk H
  clear H
  go_enter Tryd.func13, Tryd.ntmps13
  go_wp2
  go_loopg [4, 5] k (fun kq v4 v5 w' => ∃ (x4_1 : Int) (x5_1 : Int), v4 = .int .i64 x4_1 ∧ v5 = .int .i64 x5_1 ∧ Aside0 (dragomanref01_Parse.l0 kq a0 x4_1 x5_1 = some (r1, r2)) ∧ Aside0 (kq ≤ k) ∧ Aside0 (Below w.heap.size w w'))
  case atStart => exact ⟨(0), (2), (by first | rfl | (simp; done) | (simp [*]; done)), (by first | rfl | (simp; done) | (simp [*]; done)), H', ⟨Nat.le_refl _⟩, ⟨by repeat (first | (with_reducible first | exact HB.out | apply below_alloc | apply pw_below_drewN | apply below_drew1) | exact HB.out)⟩⟩
  case round =>
    clear H'
    try clear c1
    obtain ⟨x4_1, x5_1, rfl, rfl, HA, HK1, HB⟩ := hrel
    cases gk with
    | zero => exact absurd HA.out (by simp [dragomanref01_Parse.l0])
    | succ k1 =>
      have H := HA.out
      clear HA
      simp only [dragomanref01_Parse.l0] at H
      by_cases c2 : x5_1 < (a0.size : Int)
      · rw [if_pos c2] at H
        have c2b0 : decide (x5_1 < (a0.size : Int)) = true := decide_eq_true c2
        clear c2
        by_cases c3 : x5_1 < 9
        · rw [if_pos c3] at H
          have c3b0 : decide (x5_1 < 9) = true := decide_eq_true c3
          clear c3
          by_cases c4 : 0 ≤ x5_1
          · rw [if_pos c4] at H
            have c4b0 : decide (0 ≤ x5_1) = true := decide_eq_true c4
            clear c4
            replace H := Option.bind_eq_some_iff.mp H
            obtain ⟨t169, A60, H⟩ := H
            replace H : (dragomanref01_Parse.l0 k1 a0 (wrap64 ((wrap64 (16 * x4_1)) + (mx 0 t169))) (wrap64 (x5_1 + 1))) = some (r1, r2) := H
            have A6 := Aside0.mk A60
            clear A60
            obtain ⟨ji7, hji7⟩ : ∃ j_ : Int, (mx 0 t169) = j_ := ⟨_, rfl⟩
            replace H : (dragomanref01_Parse.l0 k1 a0 (wrap64 ((wrap64 (16 * x4_1)) + (ji7))) (wrap64 (x5_1 + 1))) = some (r1, r2) := by first | (rw [hji7] at H; exact H) | (simp only [hji7] at H ⊢; exact H)
            (try rw [hji7] at A6)
            (try (have hji7l : 0 ≤ ji7 := by (rw [← hji7]; unfold mx; (repeat' split) <;> omega)))
            (try (have hji7m : 0 ≤ ji7 := by omega))
            have hji7_ : (if 0 < t169 then t169 else 0) = ji7 := hji7
            have H' := Aside0.mk H
            clear H
            have p5 : 0 ≤ (x5_1 : Int) := of_decide_eq_true (by first | (with_reducible assumption) | assumption)
            have q5 : x5_1 < (a0.size : Int) := of_decide_eq_true (by first | (with_reducible assumption) | assumption)
            have hx5 := bt_at a0 x5_1
            replace p5 := eq_true p5
            replace q5 := eq_true q5
            go_wp2_with (first | ((with_reducible refine gate_callee (f := 27) rfl ?_); refine goesL_ (some 21) rfl rfl Tryd.func27 (by kernel_rfl) rfl #[.int .u8 (bt a0 x5_1)] rfl (by (try simp only [List.map_toArray, List.map_cons, List.map_nil]); first | done | rfl | (simp only [List.length_drop, List.length_take]; rfl)) ?_; (with_reducible refine (dragomanref01_digit.calls k1 (bt a0 x5_1) t169 _ A6.out).mono ?_); rintro e w' ⟨rfl, ⟨nd, rfl⟩⟩; refine ⟨_, rfl, ?_⟩))
            go_roundg k1
            case measure => have := HK1.out; omega
            case rel => exact ⟨(wrap64 ((wrap64 (16 * x4_1)) + (ji7))), (wrap64 (x5_1 + 1)), (by first | rfl | (simp; done) | (simp only [← hji7] <;> (first | rfl | simp)) | (simp [*]; done)), (by first | rfl | (simp; done) | (simp [*]; done)), H', ⟨by have := HK1.out; omega⟩, ⟨by repeat (first | (with_reducible first | exact HB.out | apply below_alloc | apply pw_below_drewN | apply below_drew1) | exact HB.out)⟩⟩
          · rw [if_neg c4] at H
            exact absurd H (by simp)
        · rw [if_neg c3] at H
          have c3b0 : decide (x5_1 < 9) = false := decide_eq_false c3
          clear c3
          by_cases c8 : x4_1 > 1114111
          · rw [if_pos c8] at H
            have c8b0 : decide (1114111 < x4_1) = true := decide_eq_true c8
            clear c8
            simp only [Option.some.injEq, Prod.mk.injEq] at H
            obtain ⟨rfl, rfl⟩ := H
            go_wp2
            go_ret2
            exact ⟨by first | rfl | (simp [errW_none, errW_some] <;> rfl) | (simp [*, errW_none, errW_some] <;> rfl), by repeat (first | (with_reducible first | exact HB.out | apply below_alloc | apply pw_below_drewN | apply below_drew1) | exact HB.out)⟩
          · rw [if_neg c8] at H
            have c8b0 : decide (1114111 < x4_1) = false := decide_eq_false c8
            clear c8
            replace H := Option.bind_eq_some_iff.mp H
            obtain ⟨t170, A90, H⟩ := H
            replace H : (if t170.toList = a0.toList then (if a0.toList = ([] : List UInt8) then (some (0, false)) else (some (wrap32 (x4_1), true))) else (some (0, false))) = some (r1, r2) := H
            have A9 := Aside0.mk A90
            clear A90
            by_cases c10 : t170.toList = a0.toList
            · rw [if_pos c10] at H
              have c10b0 : (t170.toList == a0.toList) = true := beq_iff_eq.mpr c10
              have c10b1 : (t170.toList != a0.toList) = false := bne_eq_false_iff_eq.mpr c10
              clear c10
              by_cases c11 : a0.toList = ([] : List UInt8)
              · rw [if_pos c11] at H
                have c11b0 : (a0.toList == ([] : List UInt8)) = true := beq_iff_eq.mpr c11
                have c11b1 : (a0.toList != ([] : List UInt8)) = false := bne_eq_false_iff_eq.mpr c11
                clear c11
                simp only [Option.some.injEq, Prod.mk.injEq] at H
                obtain ⟨rfl, rfl⟩ := H
                go_wp2_with (first | (go_at_call 24; (with_reducible refine (dragomanref01_Hex.calls k1 (wrap32 (x4_1)) t170 _ A9.out).mono ?_); rintro e w' ⟨rfl, ⟨nd, rfl⟩⟩))
                go_ret2
                exact ⟨by first | rfl | (simp [errW_none, errW_some] <;> rfl) | (simp [*, errW_none, errW_some] <;> rfl), by repeat (first | (with_reducible first | exact HB.out | apply below_alloc | apply pw_below_drewN | apply below_drew1) | exact HB.out)⟩
              · rw [if_neg c11] at H
                have c11b0 : (a0.toList == ([] : List UInt8)) = false := beq_eq_false_iff_ne.mpr c11
                have c11b1 : (a0.toList != ([] : List UInt8)) = true := bne_iff_ne.mpr c11
                simp only [Option.some.injEq, Prod.mk.injEq] at H
                obtain ⟨rfl, rfl⟩ := H
                go_wp2_with (first | (go_at_call 24; (with_reducible refine (dragomanref01_Hex.calls k1 (wrap32 (x4_1)) t170 _ A9.out).mono ?_); rintro e w' ⟨rfl, ⟨nd, rfl⟩⟩))
                go_ret2
                exact ⟨by first | rfl | (simp [errW_none, errW_some] <;> rfl) | (simp [*, errW_none, errW_some] <;> rfl), by repeat (first | (with_reducible first | exact HB.out | apply below_alloc | apply pw_below_drewN | apply below_drew1) | exact HB.out)⟩
            · rw [if_neg c10] at H
              have c10b0 : (t170.toList == a0.toList) = false := beq_eq_false_iff_ne.mpr c10
              have c10b1 : (t170.toList != a0.toList) = true := bne_iff_ne.mpr c10
              simp only [Option.some.injEq, Prod.mk.injEq] at H
              obtain ⟨rfl, rfl⟩ := H
              go_wp2_with (first | (go_at_call 24; (with_reducible refine (dragomanref01_Hex.calls k1 (wrap32 (x4_1)) t170 _ A9.out).mono ?_); rintro e w' ⟨rfl, ⟨nd, rfl⟩⟩))
              go_ret2
              exact ⟨by first | rfl | (simp [errW_none, errW_some] <;> rfl) | (simp [*, errW_none, errW_some] <;> rfl), by repeat (first | (with_reducible first | exact HB.out | apply below_alloc | apply pw_below_drewN | apply below_drew1) | exact HB.out)⟩
      · rw [if_neg c2] at H
        have c2b0 : decide (x5_1 < (a0.size : Int)) = false := decide_eq_false c2
        clear c2
        by_cases c12 : x4_1 > 1114111
        · rw [if_pos c12] at H
          have c12b0 : decide (1114111 < x4_1) = true := decide_eq_true c12
          clear c12
          simp only [Option.some.injEq, Prod.mk.injEq] at H
          obtain ⟨rfl, rfl⟩ := H
          go_wp2
          go_ret2
          exact ⟨by first | rfl | (simp [errW_none, errW_some] <;> rfl) | (simp [*, errW_none, errW_some] <;> rfl), by repeat (first | (with_reducible first | exact HB.out | apply below_alloc | apply pw_below_drewN | apply below_drew1) | exact HB.out)⟩
        · rw [if_neg c12] at H
          have c12b0 : decide (1114111 < x4_1) = false := decide_eq_false c12
          clear c12
          replace H := Option.bind_eq_some_iff.mp H
          obtain ⟨t171, A130, H⟩ := H
          replace H : (if t171.toList = a0.toList then (if a0.toList = ([] : List UInt8) then (some (0, false)) else (some (wrap32 (x4_1), true))) else (some (0, false))) = some (r1, r2) := H
          have A13 := Aside0.mk A130
          clear A130
          by_cases c14 : t171.toList = a0.toList
          · rw [if_pos c14] at H
            have c14b0 : (t171.toList == a0.toList) = true := beq_iff_eq.mpr c14
            have c14b1 : (t171.toList != a0.toList) = false := bne_eq_false_iff_eq.mpr c14
            clear c14
            by_cases c15 : a0.toList = ([] : List UInt8)
            · rw [if_pos c15] at H
              have c15b0 : (a0.toList == ([] : List UInt8)) = true := beq_iff_eq.mpr c15
              have c15b1 : (a0.toList != ([] : List UInt8)) = false := bne_eq_false_iff_eq.mpr c15
              clear c15
              simp only [Option.some.injEq, Prod.mk.injEq] at H
              obtain ⟨rfl, rfl⟩ := H
              go_wp2_with (first | (go_at_call 24; (with_reducible refine (dragomanref01_Hex.calls k1 (wrap32 (x4_1)) t171 _ A13.out).mono ?_); rintro e w' ⟨rfl, ⟨nd, rfl⟩⟩))
              go_ret2
              exact ⟨by first | rfl | (simp [errW_none, errW_some] <;> rfl) | (simp [*, errW_none, errW_some] <;> rfl), by repeat (first | (with_reducible first | exact HB.out | apply below_alloc | apply pw_below_drewN | apply below_drew1) | exact HB.out)⟩
            · rw [if_neg c15] at H
              have c15b0 : (a0.toList == ([] : List UInt8)) = false := beq_eq_false_iff_ne.mpr c15
              have c15b1 : (a0.toList != ([] : List UInt8)) = true := bne_iff_ne.mpr c15
              simp only [Option.some.injEq, Prod.mk.injEq] at H
              obtain ⟨rfl, rfl⟩ := H
              go_wp2_with (first | (go_at_call 24; (with_reducible refine (dragomanref01_Hex.calls k1 (wrap32 (x4_1)) t171 _ A13.out).mono ?_); rintro e w' ⟨rfl, ⟨nd, rfl⟩⟩))
              go_ret2
              exact ⟨by first | rfl | (simp [errW_none, errW_some] <;> rfl) | (simp [*, errW_none, errW_some] <;> rfl), by repeat (first | (with_reducible first | exact HB.out | apply below_alloc | apply pw_below_drewN | apply below_drew1) | exact HB.out)⟩
          · rw [if_neg c14] at H
            have c14b0 : (t171.toList == a0.toList) = false := beq_eq_false_iff_ne.mpr c14
            have c14b1 : (t171.toList != a0.toList) = true := bne_iff_ne.mpr c14
            simp only [Option.some.injEq, Prod.mk.injEq] at H
            obtain ⟨rfl, rfl⟩ := H
            go_wp2_with (first | (go_at_call 24; (with_reducible refine (dragomanref01_Hex.calls k1 (wrap32 (x4_1)) t171 _ A13.out).mono ?_); rintro e w' ⟨rfl, ⟨nd, rfl⟩⟩))
            go_ret2
            exact ⟨by first | rfl | (simp [errW_none, errW_some] <;> rfl) | (simp [*, errW_none, errW_some] <;> rfl), by repeat (first | (with_reducible first | exact HB.out | apply below_alloc | apply pw_below_drewN | apply below_drew1) | exact HB.out)⟩

/-! ### dragomanlaw01_UcsJoins: function 3 -/
def dragomanlaw01_UcsJoins.f (k : Nat) (a0 : Int) (a1 : Int) (a2 : ByteArray) : Option (Bool) := (ucs_Join.f a0 a1).bind fun bt172 => ((dragomanref01_Join.f a0 a1).bind fun bt174 => ((ucs_Split.f a0).bind fun bt176 => ((dragomanref01_Split.f a0).bind fun bt179 => ((ucs_Parse.f k a2).bind fun bt182 => ((dragomanref01_Parse.f k a2).bind fun bt184 => (if bt172.1 = bt174.1 then (if (bt172.2 == bt174.2) = true then (if bt176.1 = bt179.1 then (if bt176.2.1 = bt179.2.1 then (if (bt176.2.2 == bt179.2.2) = true then (if bt182.1 = bt184.1 then (some (bt182.2 == bt184.2)) else (some false)) else (some false)) else (some false)) else (some false)) else (some false)) else (some false)))))))
theorem dragomanlaw01_UcsJoins.mono : ∀ a0 a1 a2 k, LeO (dragomanlaw01_UcsJoins.f k a0 a1 a2) (dragomanlaw01_UcsJoins.f (k + 1) a0 a1 a2) := by
  intro a0 a1 a2 k
  unfold dragomanlaw01_UcsJoins.f
  repeat' first
      | (with_reducible exact dragomanref01_Parse.mono _ _)
      | (with_reducible exact ucs_Parse.mono _ _)
      | (with_reducible exact LeO.refl _)
      | (with_reducible exact LeO.none _)
      | (with_reducible refine LeO.ite ?_ ?_)
      | (with_reducible refine LeO.bind ?_ (fun _ => ?_))
      | exact dragomanref01_Parse.mono _ _
      | exact ucs_Parse.mono _ _
      | exact LeO.none _
      | refine LeO.ite ?_ ?_
      | refine LeO.bind ?_ (fun _ => ?_)
set_option maxHeartbeats 8000000 in
set_option maxRecDepth 100000 in
theorem dragomanlaw01_UcsJoins.calls (k : Nat) (a0 : Int) (a1 : Int) (a2 : ByteArray) (r : Bool) (w : World) (h : dragomanlaw01_UcsJoins.f k a0 a1 a2 = some r) (hT : Uc.Tab w) :
    Calls Tryd.prog 3 #[.int .i32 a0, .int .i32 a1, .string a2] w fun e w' => e = .returned (.bool r) ∧ Below w.heap.size w w' := by
  have HB := Aside0.mk (Below.refl w.heap.size w)
  have H : ((ucs_Join.f a0 a1).bind fun bt172 => ((dragomanref01_Join.f a0 a1).bind fun bt174 => ((ucs_Split.f a0).bind fun bt176 => ((dragomanref01_Split.f a0).bind fun bt179 => ((ucs_Parse.f k a2).bind fun bt182 => ((dragomanref01_Parse.f k a2).bind fun bt184 => (if bt172.1 = bt174.1 then (if (bt172.2 == bt174.2) = true then (if bt176.1 = bt179.1 then (if bt176.2.1 = bt179.2.1 then (if (bt176.2.2 == bt179.2.2) = true then (if bt182.1 = bt184.1 then (some (bt182.2 == bt184.2)) else (some false)) else (some false)) else (some false)) else (some false)) else (some false)) else (some false)))))))) = some r := h
  clear h
  replace H := Option.bind_eq_some_iff.mp H
  obtain ⟨⟨t172, t173⟩, A40, H⟩ := H
  replace H : ((dragomanref01_Join.f a0 a1).bind fun bt174 => ((ucs_Split.f a0).bind fun bt176 => ((dragomanref01_Split.f a0).bind fun bt179 => ((ucs_Parse.f k a2).bind fun bt182 => ((dragomanref01_Parse.f k a2).bind fun bt184 => (if t172 = bt174.1 then (if (t173 == bt174.2) = true then (if bt176.1 = bt179.1 then (if bt176.2.1 = bt179.2.1 then (if (bt176.2.2 == bt179.2.2) = true then (if bt182.1 = bt184.1 then (some (bt182.2 == bt184.2)) else (some false)) else (some false)) else (some false)) else (some false)) else (some false)) else (some false))))))) = some r := H
  have A4 := Aside0.mk A40
  clear A40
  replace H := Option.bind_eq_some_iff.mp H
  obtain ⟨⟨t174, t175⟩, A50, H⟩ := H
  replace H : ((ucs_Split.f a0).bind fun bt176 => ((dragomanref01_Split.f a0).bind fun bt179 => ((ucs_Parse.f k a2).bind fun bt182 => ((dragomanref01_Parse.f k a2).bind fun bt184 => (if t172 = t174 then (if (t173 == t175) = true then (if bt176.1 = bt179.1 then (if bt176.2.1 = bt179.2.1 then (if (bt176.2.2 == bt179.2.2) = true then (if bt182.1 = bt184.1 then (some (bt182.2 == bt184.2)) else (some false)) else (some false)) else (some false)) else (some false)) else (some false)) else (some false)))))) = some r := H
  have A5 := Aside0.mk A50
  clear A50
  replace H := Option.bind_eq_some_iff.mp H
  obtain ⟨⟨t176, t177, t178⟩, A60, H⟩ := H
  replace H : ((dragomanref01_Split.f a0).bind fun bt179 => ((ucs_Parse.f k a2).bind fun bt182 => ((dragomanref01_Parse.f k a2).bind fun bt184 => (if t172 = t174 then (if (t173 == t175) = true then (if t176 = bt179.1 then (if t177 = bt179.2.1 then (if (t178 == bt179.2.2) = true then (if bt182.1 = bt184.1 then (some (bt182.2 == bt184.2)) else (some false)) else (some false)) else (some false)) else (some false)) else (some false)) else (some false))))) = some r := H
  have A6 := Aside0.mk A60
  clear A60
  replace H := Option.bind_eq_some_iff.mp H
  obtain ⟨⟨t179, t180, t181⟩, A70, H⟩ := H
  replace H : ((ucs_Parse.f k a2).bind fun bt182 => ((dragomanref01_Parse.f k a2).bind fun bt184 => (if t172 = t174 then (if (t173 == t175) = true then (if t176 = t179 then (if t177 = t180 then (if (t178 == t181) = true then (if bt182.1 = bt184.1 then (some (bt182.2 == bt184.2)) else (some false)) else (some false)) else (some false)) else (some false)) else (some false)) else (some false)))) = some r := H
  have A7 := Aside0.mk A70
  clear A70
  replace H := Option.bind_eq_some_iff.mp H
  obtain ⟨⟨t182, t183⟩, A80, H⟩ := H
  replace H : ((dragomanref01_Parse.f k a2).bind fun bt184 => (if t172 = t174 then (if (t173 == t175) = true then (if t176 = t179 then (if t177 = t180 then (if (t178 == t181) = true then (if t182 = bt184.1 then (some (t183 == bt184.2)) else (some false)) else (some false)) else (some false)) else (some false)) else (some false)) else (some false))) = some r := H
  have A8 := Aside0.mk A80
  clear A80
  replace H := Option.bind_eq_some_iff.mp H
  obtain ⟨⟨t184, t185⟩, A90, H⟩ := H
  replace H : (if t172 = t174 then (if (t173 == t175) = true then (if t176 = t179 then (if t177 = t180 then (if (t178 == t181) = true then (if t182 = t184 then (some (t183 == t185)) else (some false)) else (some false)) else (some false)) else (some false)) else (some false)) else (some false)) = some r := H
  have A9 := Aside0.mk A90
  clear A90
  by_cases c10 : t172 = t174
  · rw [if_pos c10] at H
    have c10b0 : (t172 == t174) = true := beq_iff_eq.mpr c10
    have c10b1 : (t172 != t174) = false := bne_eq_false_iff_eq.mpr c10
    clear c10
    by_cases c11 : (t173 == t175) = true
    · rw [if_pos c11] at H
      have c11b0 : (t173 == t175) = true := c11
      (try (have c11b1 : decide (t173 = t175) = true := by simpa using c11))
      (try (have c11b2 : (t173 == t175) = true := by simpa using c11))
      clear c11
      by_cases c12 : t176 = t179
      · rw [if_pos c12] at H
        have c12b0 : (t176 == t179) = true := beq_iff_eq.mpr c12
        have c12b1 : (t176 != t179) = false := bne_eq_false_iff_eq.mpr c12
        clear c12
        by_cases c13 : t177 = t180
        · rw [if_pos c13] at H
          have c13b0 : (t177 == t180) = true := beq_iff_eq.mpr c13
          have c13b1 : (t177 != t180) = false := bne_eq_false_iff_eq.mpr c13
          clear c13
          by_cases c14 : (t178 == t181) = true
          · rw [if_pos c14] at H
            have c14b0 : (t178 == t181) = true := c14
            (try (have c14b1 : decide (t178 = t181) = true := by simpa using c14))
            (try (have c14b2 : (t178 == t181) = true := by simpa using c14))
            clear c14
            by_cases c15 : t182 = t184
            · rw [if_pos c15] at H
              have c15b0 : (t182 == t184) = true := beq_iff_eq.mpr c15
              have c15b1 : (t182 != t184) = false := bne_eq_false_iff_eq.mpr c15
              clear c15
              obtain rfl := Option.some.inj H
              go_enter Tryd.func3, Tryd.ntmps3
              go_wp2_with (first | ((with_reducible refine gate_callee (f := 8) rfl ?_); refine goesL_ (some 24) rfl rfl Tryd.func8 (by kernel_rfl) rfl #[.int .i32 a0, .int .i32 a1] rfl (by (try simp only [List.map_toArray, List.map_cons, List.map_nil]); first | done | rfl | (simp only [List.length_drop, List.length_take]; rfl)) ?_; (with_reducible refine (ucs_Join.calls a0 a1 t172 t173 _ A4.out).mono ?_); rintro e w' ⟨rfl, ⟨nd, rfl⟩⟩; refine ⟨_, rfl, ?_⟩) | ((with_reducible refine gate_callee (f := 9) rfl ?_); refine goesL_ (some 30) rfl rfl Tryd.func9 (by kernel_rfl) rfl #[.int .i32 a0, .int .i32 a1] rfl (by (try simp only [List.map_toArray, List.map_cons, List.map_nil]); first | done | rfl | (simp only [List.length_drop, List.length_take]; rfl)) ?_; (with_reducible refine (dragomanref01_Join.calls a0 a1 t174 t175 _ A5.out).mono ?_); rintro e w' ⟨rfl, ⟨nd, rfl⟩⟩; refine ⟨_, rfl, ?_⟩) | ((with_reducible refine gate_callee (f := 10) rfl ?_); refine goesL_ (some 35) rfl rfl Tryd.func10 (by kernel_rfl) rfl #[.int .i32 a0] rfl (by (try simp only [List.map_toArray, List.map_cons, List.map_nil]); first | done | rfl | (simp only [List.length_drop, List.length_take]; rfl)) ?_; (with_reducible refine (ucs_Split.calls a0 t176 t177 t178 _ A6.out).mono ?_); rintro e w' ⟨rfl, ⟨nd, rfl⟩⟩; refine ⟨_, rfl, ?_⟩) | ((with_reducible refine gate_callee (f := 11) rfl ?_); refine goesL_ (some 41) rfl rfl Tryd.func11 (by kernel_rfl) rfl #[.int .i32 a0] rfl (by (try simp only [List.map_toArray, List.map_cons, List.map_nil]); first | done | rfl | (simp only [List.length_drop, List.length_take]; rfl)) ?_; (with_reducible refine (dragomanref01_Split.calls a0 t179 t180 t181 _ A7.out).mono ?_); rintro e w' ⟨rfl, ⟨nd, rfl⟩⟩; refine ⟨_, rfl, ?_⟩) | ((with_reducible refine gate_callee (f := 12) rfl ?_); refine goesL_ (some 47) rfl rfl Tryd.func12 (by kernel_rfl) rfl #[.string a2] rfl (by (try simp only [List.map_toArray, List.map_cons, List.map_nil]); first | done | rfl | (simp only [List.length_drop, List.length_take]; rfl)) ?_; (with_reducible refine (ucs_Parse.calls k a2 t182 t183 _ A8.out (by first | exact hT | exact Uc.Tab.below hT (by repeat (first | (with_reducible first | exact HB.out | exact Below.refl _ _ | apply below_alloc | apply pw_below_drewN | apply below_drew1) | exact HB.out)))).mono ?_); rintro e w16 ⟨rfl, hb⟩; refine ⟨_, rfl, ?_⟩; have n0_ := Aside0.mk (below_step (by repeat (first | (with_reducible first | exact HB.out | apply below_alloc | apply pw_below_drewN | apply below_drew1) | exact HB.out)) hb); clear HB; have HB := n0_; clear n0_; (try clear hb); (try clear hb2); (try clear hk); (try clear hi)) | ((with_reducible refine gate_callee (f := 13) rfl ?_); refine goesL_ (some 52) rfl rfl Tryd.func13 (by kernel_rfl) rfl #[.string a2] rfl (by (try simp only [List.map_toArray, List.map_cons, List.map_nil]); first | done | rfl | (simp only [List.length_drop, List.length_take]; rfl)) ?_; (with_reducible refine (dragomanref01_Parse.calls k a2 t184 t185 _ A9.out).mono ?_); rintro e w17 ⟨rfl, hb⟩; refine ⟨_, rfl, ?_⟩; have n0_ := Aside0.mk (below_step (by repeat (first | (with_reducible first | exact HB.out | apply below_alloc | apply pw_below_drewN | apply below_drew1) | exact HB.out)) hb); clear HB; have HB := n0_; clear n0_; (try clear hb); (try clear hb2); (try clear hk); (try clear hi)))
              go_ret
              exact ⟨by first | rfl | (simp [errW_none, errW_some] <;> rfl) | (simp [*, errW_none, errW_some] <;> rfl), by repeat (first | (with_reducible first | exact HB.out | apply below_alloc | apply pw_below_drewN | apply below_drew1) | exact HB.out)⟩
            · rw [if_neg c15] at H
              have c15b0 : (t182 == t184) = false := beq_eq_false_iff_ne.mpr c15
              have c15b1 : (t182 != t184) = true := bne_iff_ne.mpr c15
              obtain rfl := Option.some.inj H
              go_enter Tryd.func3, Tryd.ntmps3
              go_wp2_with (first | ((with_reducible refine gate_callee (f := 8) rfl ?_); refine goesL_ (some 24) rfl rfl Tryd.func8 (by kernel_rfl) rfl #[.int .i32 a0, .int .i32 a1] rfl (by (try simp only [List.map_toArray, List.map_cons, List.map_nil]); first | done | rfl | (simp only [List.length_drop, List.length_take]; rfl)) ?_; (with_reducible refine (ucs_Join.calls a0 a1 t172 t173 _ A4.out).mono ?_); rintro e w' ⟨rfl, ⟨nd, rfl⟩⟩; refine ⟨_, rfl, ?_⟩) | ((with_reducible refine gate_callee (f := 9) rfl ?_); refine goesL_ (some 30) rfl rfl Tryd.func9 (by kernel_rfl) rfl #[.int .i32 a0, .int .i32 a1] rfl (by (try simp only [List.map_toArray, List.map_cons, List.map_nil]); first | done | rfl | (simp only [List.length_drop, List.length_take]; rfl)) ?_; (with_reducible refine (dragomanref01_Join.calls a0 a1 t174 t175 _ A5.out).mono ?_); rintro e w' ⟨rfl, ⟨nd, rfl⟩⟩; refine ⟨_, rfl, ?_⟩) | ((with_reducible refine gate_callee (f := 10) rfl ?_); refine goesL_ (some 35) rfl rfl Tryd.func10 (by kernel_rfl) rfl #[.int .i32 a0] rfl (by (try simp only [List.map_toArray, List.map_cons, List.map_nil]); first | done | rfl | (simp only [List.length_drop, List.length_take]; rfl)) ?_; (with_reducible refine (ucs_Split.calls a0 t176 t177 t178 _ A6.out).mono ?_); rintro e w' ⟨rfl, ⟨nd, rfl⟩⟩; refine ⟨_, rfl, ?_⟩) | ((with_reducible refine gate_callee (f := 11) rfl ?_); refine goesL_ (some 41) rfl rfl Tryd.func11 (by kernel_rfl) rfl #[.int .i32 a0] rfl (by (try simp only [List.map_toArray, List.map_cons, List.map_nil]); first | done | rfl | (simp only [List.length_drop, List.length_take]; rfl)) ?_; (with_reducible refine (dragomanref01_Split.calls a0 t179 t180 t181 _ A7.out).mono ?_); rintro e w' ⟨rfl, ⟨nd, rfl⟩⟩; refine ⟨_, rfl, ?_⟩) | ((with_reducible refine gate_callee (f := 12) rfl ?_); refine goesL_ (some 47) rfl rfl Tryd.func12 (by kernel_rfl) rfl #[.string a2] rfl (by (try simp only [List.map_toArray, List.map_cons, List.map_nil]); first | done | rfl | (simp only [List.length_drop, List.length_take]; rfl)) ?_; (with_reducible refine (ucs_Parse.calls k a2 t182 t183 _ A8.out (by first | exact hT | exact Uc.Tab.below hT (by repeat (first | (with_reducible first | exact HB.out | exact Below.refl _ _ | apply below_alloc | apply pw_below_drewN | apply below_drew1) | exact HB.out)))).mono ?_); rintro e w18 ⟨rfl, hb⟩; refine ⟨_, rfl, ?_⟩; have n0_ := Aside0.mk (below_step (by repeat (first | (with_reducible first | exact HB.out | apply below_alloc | apply pw_below_drewN | apply below_drew1) | exact HB.out)) hb); clear HB; have HB := n0_; clear n0_; (try clear hb); (try clear hb2); (try clear hk); (try clear hi)) | ((with_reducible refine gate_callee (f := 13) rfl ?_); refine goesL_ (some 52) rfl rfl Tryd.func13 (by kernel_rfl) rfl #[.string a2] rfl (by (try simp only [List.map_toArray, List.map_cons, List.map_nil]); first | done | rfl | (simp only [List.length_drop, List.length_take]; rfl)) ?_; (with_reducible refine (dragomanref01_Parse.calls k a2 t184 t185 _ A9.out).mono ?_); rintro e w19 ⟨rfl, hb⟩; refine ⟨_, rfl, ?_⟩; have n0_ := Aside0.mk (below_step (by repeat (first | (with_reducible first | exact HB.out | apply below_alloc | apply pw_below_drewN | apply below_drew1) | exact HB.out)) hb); clear HB; have HB := n0_; clear n0_; (try clear hb); (try clear hb2); (try clear hk); (try clear hi)))
              go_ret
              exact ⟨by first | rfl | (simp [errW_none, errW_some] <;> rfl) | (simp [*, errW_none, errW_some] <;> rfl), by repeat (first | (with_reducible first | exact HB.out | apply below_alloc | apply pw_below_drewN | apply below_drew1) | exact HB.out)⟩
          · rw [if_neg c14] at H
            have c14b0 : (t178 == t181) = false := by simpa using c14
            (try (have c14b1 : decide (t178 = t181) = false := by simpa using c14))
            (try (have c14b2 : (t178 == t181) = false := by simpa using c14))
            (try (have c14b3 : ¬ (t178 = t181) := by simpa using c14))
            clear c14
            obtain rfl := Option.some.inj H
            go_enter Tryd.func3, Tryd.ntmps3
            go_wp2_with (first | ((with_reducible refine gate_callee (f := 8) rfl ?_); refine goesL_ (some 24) rfl rfl Tryd.func8 (by kernel_rfl) rfl #[.int .i32 a0, .int .i32 a1] rfl (by (try simp only [List.map_toArray, List.map_cons, List.map_nil]); first | done | rfl | (simp only [List.length_drop, List.length_take]; rfl)) ?_; (with_reducible refine (ucs_Join.calls a0 a1 t172 t173 _ A4.out).mono ?_); rintro e w' ⟨rfl, ⟨nd, rfl⟩⟩; refine ⟨_, rfl, ?_⟩) | ((with_reducible refine gate_callee (f := 9) rfl ?_); refine goesL_ (some 30) rfl rfl Tryd.func9 (by kernel_rfl) rfl #[.int .i32 a0, .int .i32 a1] rfl (by (try simp only [List.map_toArray, List.map_cons, List.map_nil]); first | done | rfl | (simp only [List.length_drop, List.length_take]; rfl)) ?_; (with_reducible refine (dragomanref01_Join.calls a0 a1 t174 t175 _ A5.out).mono ?_); rintro e w' ⟨rfl, ⟨nd, rfl⟩⟩; refine ⟨_, rfl, ?_⟩) | ((with_reducible refine gate_callee (f := 10) rfl ?_); refine goesL_ (some 35) rfl rfl Tryd.func10 (by kernel_rfl) rfl #[.int .i32 a0] rfl (by (try simp only [List.map_toArray, List.map_cons, List.map_nil]); first | done | rfl | (simp only [List.length_drop, List.length_take]; rfl)) ?_; (with_reducible refine (ucs_Split.calls a0 t176 t177 t178 _ A6.out).mono ?_); rintro e w' ⟨rfl, ⟨nd, rfl⟩⟩; refine ⟨_, rfl, ?_⟩) | ((with_reducible refine gate_callee (f := 11) rfl ?_); refine goesL_ (some 41) rfl rfl Tryd.func11 (by kernel_rfl) rfl #[.int .i32 a0] rfl (by (try simp only [List.map_toArray, List.map_cons, List.map_nil]); first | done | rfl | (simp only [List.length_drop, List.length_take]; rfl)) ?_; (with_reducible refine (dragomanref01_Split.calls a0 t179 t180 t181 _ A7.out).mono ?_); rintro e w' ⟨rfl, ⟨nd, rfl⟩⟩; refine ⟨_, rfl, ?_⟩) | ((with_reducible refine gate_callee (f := 12) rfl ?_); refine goesL_ (some 47) rfl rfl Tryd.func12 (by kernel_rfl) rfl #[.string a2] rfl (by (try simp only [List.map_toArray, List.map_cons, List.map_nil]); first | done | rfl | (simp only [List.length_drop, List.length_take]; rfl)) ?_; (with_reducible refine (ucs_Parse.calls k a2 t182 t183 _ A8.out (by first | exact hT | exact Uc.Tab.below hT (by repeat (first | (with_reducible first | exact HB.out | exact Below.refl _ _ | apply below_alloc | apply pw_below_drewN | apply below_drew1) | exact HB.out)))).mono ?_); rintro e w20 ⟨rfl, hb⟩; refine ⟨_, rfl, ?_⟩; have n0_ := Aside0.mk (below_step (by repeat (first | (with_reducible first | exact HB.out | apply below_alloc | apply pw_below_drewN | apply below_drew1) | exact HB.out)) hb); clear HB; have HB := n0_; clear n0_; (try clear hb); (try clear hb2); (try clear hk); (try clear hi)) | ((with_reducible refine gate_callee (f := 13) rfl ?_); refine goesL_ (some 52) rfl rfl Tryd.func13 (by kernel_rfl) rfl #[.string a2] rfl (by (try simp only [List.map_toArray, List.map_cons, List.map_nil]); first | done | rfl | (simp only [List.length_drop, List.length_take]; rfl)) ?_; (with_reducible refine (dragomanref01_Parse.calls k a2 t184 t185 _ A9.out).mono ?_); rintro e w21 ⟨rfl, hb⟩; refine ⟨_, rfl, ?_⟩; have n0_ := Aside0.mk (below_step (by repeat (first | (with_reducible first | exact HB.out | apply below_alloc | apply pw_below_drewN | apply below_drew1) | exact HB.out)) hb); clear HB; have HB := n0_; clear n0_; (try clear hb); (try clear hb2); (try clear hk); (try clear hi)))
            go_ret
            exact ⟨by first | rfl | (simp [errW_none, errW_some] <;> rfl) | (simp [*, errW_none, errW_some] <;> rfl), by repeat (first | (with_reducible first | exact HB.out | apply below_alloc | apply pw_below_drewN | apply below_drew1) | exact HB.out)⟩
        · rw [if_neg c13] at H
          have c13b0 : (t177 == t180) = false := beq_eq_false_iff_ne.mpr c13
          have c13b1 : (t177 != t180) = true := bne_iff_ne.mpr c13
          obtain rfl := Option.some.inj H
          go_enter Tryd.func3, Tryd.ntmps3
          go_wp2_with (first | ((with_reducible refine gate_callee (f := 8) rfl ?_); refine goesL_ (some 24) rfl rfl Tryd.func8 (by kernel_rfl) rfl #[.int .i32 a0, .int .i32 a1] rfl (by (try simp only [List.map_toArray, List.map_cons, List.map_nil]); first | done | rfl | (simp only [List.length_drop, List.length_take]; rfl)) ?_; (with_reducible refine (ucs_Join.calls a0 a1 t172 t173 _ A4.out).mono ?_); rintro e w' ⟨rfl, ⟨nd, rfl⟩⟩; refine ⟨_, rfl, ?_⟩) | ((with_reducible refine gate_callee (f := 9) rfl ?_); refine goesL_ (some 30) rfl rfl Tryd.func9 (by kernel_rfl) rfl #[.int .i32 a0, .int .i32 a1] rfl (by (try simp only [List.map_toArray, List.map_cons, List.map_nil]); first | done | rfl | (simp only [List.length_drop, List.length_take]; rfl)) ?_; (with_reducible refine (dragomanref01_Join.calls a0 a1 t174 t175 _ A5.out).mono ?_); rintro e w' ⟨rfl, ⟨nd, rfl⟩⟩; refine ⟨_, rfl, ?_⟩) | ((with_reducible refine gate_callee (f := 10) rfl ?_); refine goesL_ (some 35) rfl rfl Tryd.func10 (by kernel_rfl) rfl #[.int .i32 a0] rfl (by (try simp only [List.map_toArray, List.map_cons, List.map_nil]); first | done | rfl | (simp only [List.length_drop, List.length_take]; rfl)) ?_; (with_reducible refine (ucs_Split.calls a0 t176 t177 t178 _ A6.out).mono ?_); rintro e w' ⟨rfl, ⟨nd, rfl⟩⟩; refine ⟨_, rfl, ?_⟩) | ((with_reducible refine gate_callee (f := 11) rfl ?_); refine goesL_ (some 41) rfl rfl Tryd.func11 (by kernel_rfl) rfl #[.int .i32 a0] rfl (by (try simp only [List.map_toArray, List.map_cons, List.map_nil]); first | done | rfl | (simp only [List.length_drop, List.length_take]; rfl)) ?_; (with_reducible refine (dragomanref01_Split.calls a0 t179 t180 t181 _ A7.out).mono ?_); rintro e w' ⟨rfl, ⟨nd, rfl⟩⟩; refine ⟨_, rfl, ?_⟩) | ((with_reducible refine gate_callee (f := 12) rfl ?_); refine goesL_ (some 47) rfl rfl Tryd.func12 (by kernel_rfl) rfl #[.string a2] rfl (by (try simp only [List.map_toArray, List.map_cons, List.map_nil]); first | done | rfl | (simp only [List.length_drop, List.length_take]; rfl)) ?_; (with_reducible refine (ucs_Parse.calls k a2 t182 t183 _ A8.out (by first | exact hT | exact Uc.Tab.below hT (by repeat (first | (with_reducible first | exact HB.out | exact Below.refl _ _ | apply below_alloc | apply pw_below_drewN | apply below_drew1) | exact HB.out)))).mono ?_); rintro e w22 ⟨rfl, hb⟩; refine ⟨_, rfl, ?_⟩; have n0_ := Aside0.mk (below_step (by repeat (first | (with_reducible first | exact HB.out | apply below_alloc | apply pw_below_drewN | apply below_drew1) | exact HB.out)) hb); clear HB; have HB := n0_; clear n0_; (try clear hb); (try clear hb2); (try clear hk); (try clear hi)) | ((with_reducible refine gate_callee (f := 13) rfl ?_); refine goesL_ (some 52) rfl rfl Tryd.func13 (by kernel_rfl) rfl #[.string a2] rfl (by (try simp only [List.map_toArray, List.map_cons, List.map_nil]); first | done | rfl | (simp only [List.length_drop, List.length_take]; rfl)) ?_; (with_reducible refine (dragomanref01_Parse.calls k a2 t184 t185 _ A9.out).mono ?_); rintro e w23 ⟨rfl, hb⟩; refine ⟨_, rfl, ?_⟩; have n0_ := Aside0.mk (below_step (by repeat (first | (with_reducible first | exact HB.out | apply below_alloc | apply pw_below_drewN | apply below_drew1) | exact HB.out)) hb); clear HB; have HB := n0_; clear n0_; (try clear hb); (try clear hb2); (try clear hk); (try clear hi)))
          go_ret
          exact ⟨by first | rfl | (simp [errW_none, errW_some] <;> rfl) | (simp [*, errW_none, errW_some] <;> rfl), by repeat (first | (with_reducible first | exact HB.out | apply below_alloc | apply pw_below_drewN | apply below_drew1) | exact HB.out)⟩
      · rw [if_neg c12] at H
        have c12b0 : (t176 == t179) = false := beq_eq_false_iff_ne.mpr c12
        have c12b1 : (t176 != t179) = true := bne_iff_ne.mpr c12
        obtain rfl := Option.some.inj H
        go_enter Tryd.func3, Tryd.ntmps3
        go_wp2_with (first | ((with_reducible refine gate_callee (f := 8) rfl ?_); refine goesL_ (some 24) rfl rfl Tryd.func8 (by kernel_rfl) rfl #[.int .i32 a0, .int .i32 a1] rfl (by (try simp only [List.map_toArray, List.map_cons, List.map_nil]); first | done | rfl | (simp only [List.length_drop, List.length_take]; rfl)) ?_; (with_reducible refine (ucs_Join.calls a0 a1 t172 t173 _ A4.out).mono ?_); rintro e w' ⟨rfl, ⟨nd, rfl⟩⟩; refine ⟨_, rfl, ?_⟩) | ((with_reducible refine gate_callee (f := 9) rfl ?_); refine goesL_ (some 30) rfl rfl Tryd.func9 (by kernel_rfl) rfl #[.int .i32 a0, .int .i32 a1] rfl (by (try simp only [List.map_toArray, List.map_cons, List.map_nil]); first | done | rfl | (simp only [List.length_drop, List.length_take]; rfl)) ?_; (with_reducible refine (dragomanref01_Join.calls a0 a1 t174 t175 _ A5.out).mono ?_); rintro e w' ⟨rfl, ⟨nd, rfl⟩⟩; refine ⟨_, rfl, ?_⟩) | ((with_reducible refine gate_callee (f := 10) rfl ?_); refine goesL_ (some 35) rfl rfl Tryd.func10 (by kernel_rfl) rfl #[.int .i32 a0] rfl (by (try simp only [List.map_toArray, List.map_cons, List.map_nil]); first | done | rfl | (simp only [List.length_drop, List.length_take]; rfl)) ?_; (with_reducible refine (ucs_Split.calls a0 t176 t177 t178 _ A6.out).mono ?_); rintro e w' ⟨rfl, ⟨nd, rfl⟩⟩; refine ⟨_, rfl, ?_⟩) | ((with_reducible refine gate_callee (f := 11) rfl ?_); refine goesL_ (some 41) rfl rfl Tryd.func11 (by kernel_rfl) rfl #[.int .i32 a0] rfl (by (try simp only [List.map_toArray, List.map_cons, List.map_nil]); first | done | rfl | (simp only [List.length_drop, List.length_take]; rfl)) ?_; (with_reducible refine (dragomanref01_Split.calls a0 t179 t180 t181 _ A7.out).mono ?_); rintro e w' ⟨rfl, ⟨nd, rfl⟩⟩; refine ⟨_, rfl, ?_⟩) | ((with_reducible refine gate_callee (f := 12) rfl ?_); refine goesL_ (some 47) rfl rfl Tryd.func12 (by kernel_rfl) rfl #[.string a2] rfl (by (try simp only [List.map_toArray, List.map_cons, List.map_nil]); first | done | rfl | (simp only [List.length_drop, List.length_take]; rfl)) ?_; (with_reducible refine (ucs_Parse.calls k a2 t182 t183 _ A8.out (by first | exact hT | exact Uc.Tab.below hT (by repeat (first | (with_reducible first | exact HB.out | exact Below.refl _ _ | apply below_alloc | apply pw_below_drewN | apply below_drew1) | exact HB.out)))).mono ?_); rintro e w24 ⟨rfl, hb⟩; refine ⟨_, rfl, ?_⟩; have n0_ := Aside0.mk (below_step (by repeat (first | (with_reducible first | exact HB.out | apply below_alloc | apply pw_below_drewN | apply below_drew1) | exact HB.out)) hb); clear HB; have HB := n0_; clear n0_; (try clear hb); (try clear hb2); (try clear hk); (try clear hi)) | ((with_reducible refine gate_callee (f := 13) rfl ?_); refine goesL_ (some 52) rfl rfl Tryd.func13 (by kernel_rfl) rfl #[.string a2] rfl (by (try simp only [List.map_toArray, List.map_cons, List.map_nil]); first | done | rfl | (simp only [List.length_drop, List.length_take]; rfl)) ?_; (with_reducible refine (dragomanref01_Parse.calls k a2 t184 t185 _ A9.out).mono ?_); rintro e w25 ⟨rfl, hb⟩; refine ⟨_, rfl, ?_⟩; have n0_ := Aside0.mk (below_step (by repeat (first | (with_reducible first | exact HB.out | apply below_alloc | apply pw_below_drewN | apply below_drew1) | exact HB.out)) hb); clear HB; have HB := n0_; clear n0_; (try clear hb); (try clear hb2); (try clear hk); (try clear hi)))
        go_ret
        exact ⟨by first | rfl | (simp [errW_none, errW_some] <;> rfl) | (simp [*, errW_none, errW_some] <;> rfl), by repeat (first | (with_reducible first | exact HB.out | apply below_alloc | apply pw_below_drewN | apply below_drew1) | exact HB.out)⟩
    · rw [if_neg c11] at H
      have c11b0 : (t173 == t175) = false := by simpa using c11
      (try (have c11b1 : decide (t173 = t175) = false := by simpa using c11))
      (try (have c11b2 : (t173 == t175) = false := by simpa using c11))
      (try (have c11b3 : ¬ (t173 = t175) := by simpa using c11))
      clear c11
      obtain rfl := Option.some.inj H
      go_enter Tryd.func3, Tryd.ntmps3
      go_wp2_with (first | ((with_reducible refine gate_callee (f := 8) rfl ?_); refine goesL_ (some 24) rfl rfl Tryd.func8 (by kernel_rfl) rfl #[.int .i32 a0, .int .i32 a1] rfl (by (try simp only [List.map_toArray, List.map_cons, List.map_nil]); first | done | rfl | (simp only [List.length_drop, List.length_take]; rfl)) ?_; (with_reducible refine (ucs_Join.calls a0 a1 t172 t173 _ A4.out).mono ?_); rintro e w' ⟨rfl, ⟨nd, rfl⟩⟩; refine ⟨_, rfl, ?_⟩) | ((with_reducible refine gate_callee (f := 9) rfl ?_); refine goesL_ (some 30) rfl rfl Tryd.func9 (by kernel_rfl) rfl #[.int .i32 a0, .int .i32 a1] rfl (by (try simp only [List.map_toArray, List.map_cons, List.map_nil]); first | done | rfl | (simp only [List.length_drop, List.length_take]; rfl)) ?_; (with_reducible refine (dragomanref01_Join.calls a0 a1 t174 t175 _ A5.out).mono ?_); rintro e w' ⟨rfl, ⟨nd, rfl⟩⟩; refine ⟨_, rfl, ?_⟩) | ((with_reducible refine gate_callee (f := 10) rfl ?_); refine goesL_ (some 35) rfl rfl Tryd.func10 (by kernel_rfl) rfl #[.int .i32 a0] rfl (by (try simp only [List.map_toArray, List.map_cons, List.map_nil]); first | done | rfl | (simp only [List.length_drop, List.length_take]; rfl)) ?_; (with_reducible refine (ucs_Split.calls a0 t176 t177 t178 _ A6.out).mono ?_); rintro e w' ⟨rfl, ⟨nd, rfl⟩⟩; refine ⟨_, rfl, ?_⟩) | ((with_reducible refine gate_callee (f := 11) rfl ?_); refine goesL_ (some 41) rfl rfl Tryd.func11 (by kernel_rfl) rfl #[.int .i32 a0] rfl (by (try simp only [List.map_toArray, List.map_cons, List.map_nil]); first | done | rfl | (simp only [List.length_drop, List.length_take]; rfl)) ?_; (with_reducible refine (dragomanref01_Split.calls a0 t179 t180 t181 _ A7.out).mono ?_); rintro e w' ⟨rfl, ⟨nd, rfl⟩⟩; refine ⟨_, rfl, ?_⟩) | ((with_reducible refine gate_callee (f := 12) rfl ?_); refine goesL_ (some 47) rfl rfl Tryd.func12 (by kernel_rfl) rfl #[.string a2] rfl (by (try simp only [List.map_toArray, List.map_cons, List.map_nil]); first | done | rfl | (simp only [List.length_drop, List.length_take]; rfl)) ?_; (with_reducible refine (ucs_Parse.calls k a2 t182 t183 _ A8.out (by first | exact hT | exact Uc.Tab.below hT (by repeat (first | (with_reducible first | exact HB.out | exact Below.refl _ _ | apply below_alloc | apply pw_below_drewN | apply below_drew1) | exact HB.out)))).mono ?_); rintro e w26 ⟨rfl, hb⟩; refine ⟨_, rfl, ?_⟩; have n0_ := Aside0.mk (below_step (by repeat (first | (with_reducible first | exact HB.out | apply below_alloc | apply pw_below_drewN | apply below_drew1) | exact HB.out)) hb); clear HB; have HB := n0_; clear n0_; (try clear hb); (try clear hb2); (try clear hk); (try clear hi)) | ((with_reducible refine gate_callee (f := 13) rfl ?_); refine goesL_ (some 52) rfl rfl Tryd.func13 (by kernel_rfl) rfl #[.string a2] rfl (by (try simp only [List.map_toArray, List.map_cons, List.map_nil]); first | done | rfl | (simp only [List.length_drop, List.length_take]; rfl)) ?_; (with_reducible refine (dragomanref01_Parse.calls k a2 t184 t185 _ A9.out).mono ?_); rintro e w27 ⟨rfl, hb⟩; refine ⟨_, rfl, ?_⟩; have n0_ := Aside0.mk (below_step (by repeat (first | (with_reducible first | exact HB.out | apply below_alloc | apply pw_below_drewN | apply below_drew1) | exact HB.out)) hb); clear HB; have HB := n0_; clear n0_; (try clear hb); (try clear hb2); (try clear hk); (try clear hi)))
      go_ret
      exact ⟨by first | rfl | (simp [errW_none, errW_some] <;> rfl) | (simp [*, errW_none, errW_some] <;> rfl), by repeat (first | (with_reducible first | exact HB.out | apply below_alloc | apply pw_below_drewN | apply below_drew1) | exact HB.out)⟩
  · rw [if_neg c10] at H
    have c10b0 : (t172 == t174) = false := beq_eq_false_iff_ne.mpr c10
    have c10b1 : (t172 != t174) = true := bne_iff_ne.mpr c10
    obtain rfl := Option.some.inj H
    go_enter Tryd.func3, Tryd.ntmps3
    go_wp2_with (first | ((with_reducible refine gate_callee (f := 8) rfl ?_); refine goesL_ (some 24) rfl rfl Tryd.func8 (by kernel_rfl) rfl #[.int .i32 a0, .int .i32 a1] rfl (by (try simp only [List.map_toArray, List.map_cons, List.map_nil]); first | done | rfl | (simp only [List.length_drop, List.length_take]; rfl)) ?_; (with_reducible refine (ucs_Join.calls a0 a1 t172 t173 _ A4.out).mono ?_); rintro e w' ⟨rfl, ⟨nd, rfl⟩⟩; refine ⟨_, rfl, ?_⟩) | ((with_reducible refine gate_callee (f := 9) rfl ?_); refine goesL_ (some 30) rfl rfl Tryd.func9 (by kernel_rfl) rfl #[.int .i32 a0, .int .i32 a1] rfl (by (try simp only [List.map_toArray, List.map_cons, List.map_nil]); first | done | rfl | (simp only [List.length_drop, List.length_take]; rfl)) ?_; (with_reducible refine (dragomanref01_Join.calls a0 a1 t174 t175 _ A5.out).mono ?_); rintro e w' ⟨rfl, ⟨nd, rfl⟩⟩; refine ⟨_, rfl, ?_⟩) | ((with_reducible refine gate_callee (f := 10) rfl ?_); refine goesL_ (some 35) rfl rfl Tryd.func10 (by kernel_rfl) rfl #[.int .i32 a0] rfl (by (try simp only [List.map_toArray, List.map_cons, List.map_nil]); first | done | rfl | (simp only [List.length_drop, List.length_take]; rfl)) ?_; (with_reducible refine (ucs_Split.calls a0 t176 t177 t178 _ A6.out).mono ?_); rintro e w' ⟨rfl, ⟨nd, rfl⟩⟩; refine ⟨_, rfl, ?_⟩) | ((with_reducible refine gate_callee (f := 11) rfl ?_); refine goesL_ (some 41) rfl rfl Tryd.func11 (by kernel_rfl) rfl #[.int .i32 a0] rfl (by (try simp only [List.map_toArray, List.map_cons, List.map_nil]); first | done | rfl | (simp only [List.length_drop, List.length_take]; rfl)) ?_; (with_reducible refine (dragomanref01_Split.calls a0 t179 t180 t181 _ A7.out).mono ?_); rintro e w' ⟨rfl, ⟨nd, rfl⟩⟩; refine ⟨_, rfl, ?_⟩) | ((with_reducible refine gate_callee (f := 12) rfl ?_); refine goesL_ (some 47) rfl rfl Tryd.func12 (by kernel_rfl) rfl #[.string a2] rfl (by (try simp only [List.map_toArray, List.map_cons, List.map_nil]); first | done | rfl | (simp only [List.length_drop, List.length_take]; rfl)) ?_; (with_reducible refine (ucs_Parse.calls k a2 t182 t183 _ A8.out (by first | exact hT | exact Uc.Tab.below hT (by repeat (first | (with_reducible first | exact HB.out | exact Below.refl _ _ | apply below_alloc | apply pw_below_drewN | apply below_drew1) | exact HB.out)))).mono ?_); rintro e w28 ⟨rfl, hb⟩; refine ⟨_, rfl, ?_⟩; have n0_ := Aside0.mk (below_step (by repeat (first | (with_reducible first | exact HB.out | apply below_alloc | apply pw_below_drewN | apply below_drew1) | exact HB.out)) hb); clear HB; have HB := n0_; clear n0_; (try clear hb); (try clear hb2); (try clear hk); (try clear hi)) | ((with_reducible refine gate_callee (f := 13) rfl ?_); refine goesL_ (some 52) rfl rfl Tryd.func13 (by kernel_rfl) rfl #[.string a2] rfl (by (try simp only [List.map_toArray, List.map_cons, List.map_nil]); first | done | rfl | (simp only [List.length_drop, List.length_take]; rfl)) ?_; (with_reducible refine (dragomanref01_Parse.calls k a2 t184 t185 _ A9.out).mono ?_); rintro e w29 ⟨rfl, hb⟩; refine ⟨_, rfl, ?_⟩; have n0_ := Aside0.mk (below_step (by repeat (first | (with_reducible first | exact HB.out | apply below_alloc | apply pw_below_drewN | apply below_drew1) | exact HB.out)) hb); clear HB; have HB := n0_; clear n0_; (try clear hb); (try clear hb2); (try clear hk); (try clear hi)))
    go_ret
    exact ⟨by first | rfl | (simp [errW_none, errW_some] <;> rfl) | (simp [*, errW_none, errW_some] <;> rfl), by repeat (first | (with_reducible first | exact HB.out | apply below_alloc | apply pw_below_drewN | apply below_drew1) | exact HB.out)⟩

/-- THE ONE PURE STATEMENT of dragomanlaw01_UcsJoins: yours. -/
def dragomanlaw01_UcsJoins.Pure : Prop := ∀ (a0 : Int) (a1 : Int) (a2 : ByteArray), (Lit.int .i32 a0).wf = true → (Lit.int .i32 a1).wf = true → a2.size ≤ 140737488351232 → ∃ k, dragomanlaw01_UcsJoins.f k a0 a1 a2 = some true
theorem dragomanlaw01_UcsJoins.walk (P : dragomanlaw01_UcsJoins.Pure) (a0 : Int) (a1 : Int) (a2 : ByteArray) (w : World) (w0 : (Lit.int .i32 a0).wf = true) (w1 : (Lit.int .i32 a1).wf = true) (w2 : a2.size ≤ 140737488351232) (hT : Uc.Tab w) :
    Calls Tryd.prog 3 #[.int .i32 a0, .int .i32 a1, .string a2] w fun e w' => e = .returned (.bool true) ∧ Below w.heap.size w w' := by
  obtain ⟨k, h⟩ := P a0 a1 a2 w0 w1 w2
  refine (dragomanlaw01_UcsJoins.calls k a0 a1 a2 true w h hT).mono ?_
  rintro e w' ⟨rfl, hd⟩
  exact ⟨rfl, hd⟩

end Go.Proofs.YtegogeglofikhaaDoor.PUcsJoins
