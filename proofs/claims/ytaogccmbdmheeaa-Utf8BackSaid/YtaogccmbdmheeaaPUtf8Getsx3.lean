-- PRINTED BY print.sh 35421559b90ae4d0a3588c463048766b98c2df88dd9212a6774a882060cdf62d: not written by this session
import Derived.Test.YtaogccmbdmheeaaPUtf8Getsx0
namespace Go.Proofs.Ytaogccmbdmheeaa.PUtf8Gets
open Go.RowKit Go.Proofs.YtaogccmbdmheeaaW.PrintWords Go.Proofs.YtaogccmbdmheeaaW.PrintLast Go.Proofs.YtaogccmbdmheeaaW.PrintMore
attribute [local go_sem] max2_int min2_int max_two min_two max_three min_three max_four min_four   -- for this text's walks alone
set_option linter.unusedVariables false
set_option linter.unusedSimpArgs false

/-! ### dragomanref03_bounds: function 26 -/
def dragomanref03_bounds.j0 : Nat → List Int → Int → Option (Int × Int)
  | 0, _, _ => none
  | k + 1, x0, x4 => if (x0.length : Int) ≥ x4 then (some (0, 0)) else (if (x0.length : Int) = 1 then (if 0 < (x0.length : Int) then (if (rd x0 0) = 224 then (some (160, 191)) else (if (rd x0 0) = 237 then (some (128, 159)) else (if (rd x0 0) = 240 then (some (144, 191)) else (if (rd x0 0) = 244 then (some (128, 143)) else (some (128, 191)))))) else (none)) else (some (128, 191)))
def dragomanref03_bounds.f (k : Nat) (l0 : List Int) : Option (Int × Int) := if (l0.length : Int) = 0 then (some (0, 244)) else (if 0 < (l0.length : Int) then (if (rd l0 0) ≥ 240 then (dragomanref03_bounds.j0 k l0 4) else (if (rd l0 0) ≥ 224 then (dragomanref03_bounds.j0 k l0 3) else (if (rd l0 0) ≥ 194 then (dragomanref03_bounds.j0 k l0 2) else (dragomanref03_bounds.j0 k l0 1)))) else (none))
theorem dragomanref03_bounds.mono_l : ∀ k, (∀ y0 y1, LeO (dragomanref03_bounds.j0 k y0 y1) (dragomanref03_bounds.j0 (k + 1) y0 y1))
  | 0 => fun _ _ r h => by simp [dragomanref03_bounds.j0] at h
  | k + 1 => by
    have ih0 := dragomanref03_bounds.mono_l k
    · intro y0 y1
      unfold dragomanref03_bounds.j0
      repeat' first
      | (with_reducible exact ih0 _ _)
      | (with_reducible exact LeO.refl _)
      | (with_reducible exact LeO.none _)
      | (with_reducible refine LeO.ite ?_ ?_)
      | (with_reducible refine LeO.bind ?_ (fun _ => ?_))
      | exact ih0 _ _
      | exact LeO.none _
      | refine LeO.ite ?_ ?_
      | refine LeO.bind ?_ (fun _ => ?_)
theorem dragomanref03_bounds.mono : ∀ a0 k, LeO (dragomanref03_bounds.f k a0) (dragomanref03_bounds.f (k + 1) a0) := by
  intro a0 k
  have ih0 := dragomanref03_bounds.mono_l k
  unfold dragomanref03_bounds.f
  repeat' first
      | (with_reducible exact ih0 _ _)
      | (with_reducible exact LeO.refl _)
      | (with_reducible exact LeO.none _)
      | (with_reducible refine LeO.ite ?_ ?_)
      | (with_reducible refine LeO.bind ?_ (fun _ => ?_))
      | exact ih0 _ _
      | exact LeO.none _
      | refine LeO.ite ?_ ?_
      | refine LeO.bind ?_ (fun _ => ?_)
set_option maxHeartbeats 8000000 in
set_option maxRecDepth 100000 in
theorem dragomanref03_bounds.calls (k : Nat) (A0 : Option Addr) (c0 : Nat) (l0 : List Int) (r1 : Int) (r2 : Int) (w : World) (hr0 : Kd.C (Kd.int .u8) w A0 l0.length l0) (hc0 : l0.length ≤ c0) (h : dragomanref03_bounds.f k l0 = some (r1, r2)) :
    Calls Try.prog 26 #[.slice A0 l0.length c0] w fun e w' => e = .returned (.tuple #[.int .u8 r1, .int .u8 r2]) ∧ Drawn0 w w' := by
  have HR0 := Aside0.mk hr0
  have HC0 := Aside0.mk hc0
  clear hr0 hc0
  have H : (if (l0.length : Int) = 0 then (some (0, 244)) else (if 0 < (l0.length : Int) then (if (rd l0 0) ≥ 240 then (dragomanref03_bounds.j0 k l0 4) else (if (rd l0 0) ≥ 224 then (dragomanref03_bounds.j0 k l0 3) else (if (rd l0 0) ≥ 194 then (dragomanref03_bounds.j0 k l0 2) else (dragomanref03_bounds.j0 k l0 1)))) else (none))) = some (r1, r2) := h
  clear h
  by_cases c2 : (l0.length : Int) = 0
  · rw [if_pos c2] at H
    have c2b0 : ((l0.length : Int) == 0) = true := beq_iff_eq.mpr c2
    have c2b1 : ((l0.length : Int) != 0) = false := bne_eq_false_iff_eq.mpr c2
    clear c2
    simp only [Option.some.injEq, Prod.mk.injEq] at H
    obtain ⟨rfl, rfl⟩ := H
    go_enter Try.func26, Try.ntmps26
    go_wp2
    go_ret2
    exact ⟨by first | rfl | (simp; done) | (simp [*]; done), by repeat (first | exact Drawn0.refl _ | apply Drawn0.step)⟩
  · rw [if_neg c2] at H
    have c2b0 : ((l0.length : Int) == 0) = false := beq_eq_false_iff_ne.mpr c2
    have c2b1 : ((l0.length : Int) != 0) = true := bne_iff_ne.mpr c2
    have c2b2 : ¬ (l0 = []) := fun h_ => c2 (by rw [h_]; rfl)
    have HC3 := Aside0.mk H
    clear H
    go_enter Try.func26, Try.ntmps26
    go_upto_block 0 with (fail)
    go_cut [4] (fun v4 wc => ∃ (kq : Nat) (x4_2 : Int), v4 = .int .i64 x4_2 ∧ Aside0 (dragomanref03_bounds.j0 kq l0 x4_2 = some (r1, r2)) ∧ Aside0 (kq ≤ k) ∧ Drawn0 w wc)
    case first =>
      have H := HC3.out
      clear HC3
      by_cases c4 : 0 < (l0.length : Int)
      · rw [if_pos c4] at H
        have c4b0 : decide (0 < (l0.length : Int)) = true := decide_eq_true c4
        have c4b1 : decide (0 < l0.length) = true := decide_eq_true (by omega)
        clear c4
        (first | rw [c4b0] | (simp only [i64_w, i32_w]; rw [c4b0]) | skip)
        by_cases c5 : (rd l0 0) ≥ 240
        · rw [if_pos c5] at H
          have c5b0 : decide (240 ≤ (rd l0 0)) = true := decide_eq_true c5
          clear c5
          have H' := Aside0.mk H
          clear H
          have p108 : 0 ≤ (0 : Int) := (by omega)
          have q108 : 0 < (l0.length : Int) := of_decide_eq_true (by first | (with_reducible assumption) | assumption)
          obtain ⟨ad108, e108, hx108_0⟩ := Kd.at_int HR0.out 0 p108 q108
          cases e108
          have qi108 : (0 < l0.length) = True := eq_true (by omega)
          (try rw [show ((0 : Int)).toNat = 0 from rfl] at hx108_0)
          (try rw [Addr.add_zero'] at hx108_0)
          replace p108 := eq_true p108
          replace q108 := eq_true q108
          go_wp2
          go_meet
          case rel => exact ⟨_, (4), (by first | rfl | (simp; done) | (simp [*]; done)), H', ⟨by first | omega | exact Nat.le_refl _⟩, by repeat (first | exact Drawn0.refl _ | apply Drawn0.step)⟩
        · rw [if_neg c5] at H
          have c5b0 : decide (240 ≤ (rd l0 0)) = false := decide_eq_false c5
          clear c5
          by_cases c6 : (rd l0 0) ≥ 224
          · rw [if_pos c6] at H
            have c6b0 : decide (224 ≤ (rd l0 0)) = true := decide_eq_true c6
            clear c6
            have H' := Aside0.mk H
            clear H
            have p108 : 0 ≤ (0 : Int) := (by omega)
            have q108 : 0 < (l0.length : Int) := of_decide_eq_true (by first | (with_reducible assumption) | assumption)
            obtain ⟨ad108, e108, hx108_0⟩ := Kd.at_int HR0.out 0 p108 q108
            cases e108
            have qi108 : (0 < l0.length) = True := eq_true (by omega)
            (try rw [show ((0 : Int)).toNat = 0 from rfl] at hx108_0)
            (try rw [Addr.add_zero'] at hx108_0)
            replace p108 := eq_true p108
            replace q108 := eq_true q108
            have p109 : 0 ≤ (0 : Int) := (by omega)
            have q109 : 0 < (l0.length : Int) := of_decide_eq_true (by first | (with_reducible assumption) | assumption)
            obtain ⟨ad109, e109, hx109_0⟩ := Kd.at_int HR0.out 0 p109 q109
            obtain rfl : ad108 = ad109 := (by injection e109)
            have qi109 : (0 < l0.length) = True := eq_true (by omega)
            (try rw [show ((0 : Int)).toNat = 0 from rfl] at hx109_0)
            (try rw [Addr.add_zero'] at hx109_0)
            replace p109 := eq_true p109
            replace q109 := eq_true q109
            go_wp2
            go_meet
            case rel => exact ⟨_, (3), (by first | rfl | (simp; done) | (simp [*]; done)), H', ⟨by first | omega | exact Nat.le_refl _⟩, by repeat (first | exact Drawn0.refl _ | apply Drawn0.step)⟩
          · rw [if_neg c6] at H
            have c6b0 : decide (224 ≤ (rd l0 0)) = false := decide_eq_false c6
            clear c6
            by_cases c7 : (rd l0 0) ≥ 194
            · rw [if_pos c7] at H
              have c7b0 : decide (194 ≤ (rd l0 0)) = true := decide_eq_true c7
              clear c7
              have H' := Aside0.mk H
              clear H
              have p108 : 0 ≤ (0 : Int) := (by omega)
              have q108 : 0 < (l0.length : Int) := of_decide_eq_true (by first | (with_reducible assumption) | assumption)
              obtain ⟨ad108, e108, hx108_0⟩ := Kd.at_int HR0.out 0 p108 q108
              cases e108
              have qi108 : (0 < l0.length) = True := eq_true (by omega)
              (try rw [show ((0 : Int)).toNat = 0 from rfl] at hx108_0)
              (try rw [Addr.add_zero'] at hx108_0)
              replace p108 := eq_true p108
              replace q108 := eq_true q108
              have p109 : 0 ≤ (0 : Int) := (by omega)
              have q109 : 0 < (l0.length : Int) := of_decide_eq_true (by first | (with_reducible assumption) | assumption)
              obtain ⟨ad109, e109, hx109_0⟩ := Kd.at_int HR0.out 0 p109 q109
              obtain rfl : ad108 = ad109 := (by injection e109)
              have qi109 : (0 < l0.length) = True := eq_true (by omega)
              (try rw [show ((0 : Int)).toNat = 0 from rfl] at hx109_0)
              (try rw [Addr.add_zero'] at hx109_0)
              replace p109 := eq_true p109
              replace q109 := eq_true q109
              have p110 : 0 ≤ (0 : Int) := (by omega)
              have q110 : 0 < (l0.length : Int) := of_decide_eq_true (by first | (with_reducible assumption) | assumption)
              obtain ⟨ad110, e110, hx110_0⟩ := Kd.at_int HR0.out 0 p110 q110
              obtain rfl : ad108 = ad110 := (by injection e110)
              have qi110 : (0 < l0.length) = True := eq_true (by omega)
              (try rw [show ((0 : Int)).toNat = 0 from rfl] at hx110_0)
              (try rw [Addr.add_zero'] at hx110_0)
              replace p110 := eq_true p110
              replace q110 := eq_true q110
              go_wp2
              go_meet
              case rel => exact ⟨_, (2), (by first | rfl | (simp; done) | (simp [*]; done)), H', ⟨by first | omega | exact Nat.le_refl _⟩, by repeat (first | exact Drawn0.refl _ | apply Drawn0.step)⟩
            · rw [if_neg c7] at H
              have c7b0 : decide (194 ≤ (rd l0 0)) = false := decide_eq_false c7
              clear c7
              have H' := Aside0.mk H
              clear H
              have p108 : 0 ≤ (0 : Int) := (by omega)
              have q108 : 0 < (l0.length : Int) := of_decide_eq_true (by first | (with_reducible assumption) | assumption)
              obtain ⟨ad108, e108, hx108_0⟩ := Kd.at_int HR0.out 0 p108 q108
              cases e108
              have qi108 : (0 < l0.length) = True := eq_true (by omega)
              (try rw [show ((0 : Int)).toNat = 0 from rfl] at hx108_0)
              (try rw [Addr.add_zero'] at hx108_0)
              replace p108 := eq_true p108
              replace q108 := eq_true q108
              have p109 : 0 ≤ (0 : Int) := (by omega)
              have q109 : 0 < (l0.length : Int) := of_decide_eq_true (by first | (with_reducible assumption) | assumption)
              obtain ⟨ad109, e109, hx109_0⟩ := Kd.at_int HR0.out 0 p109 q109
              obtain rfl : ad108 = ad109 := (by injection e109)
              have qi109 : (0 < l0.length) = True := eq_true (by omega)
              (try rw [show ((0 : Int)).toNat = 0 from rfl] at hx109_0)
              (try rw [Addr.add_zero'] at hx109_0)
              replace p109 := eq_true p109
              replace q109 := eq_true q109
              have p110 : 0 ≤ (0 : Int) := (by omega)
              have q110 : 0 < (l0.length : Int) := of_decide_eq_true (by first | (with_reducible assumption) | assumption)
              obtain ⟨ad110, e110, hx110_0⟩ := Kd.at_int HR0.out 0 p110 q110
              obtain rfl : ad108 = ad110 := (by injection e110)
              have qi110 : (0 < l0.length) = True := eq_true (by omega)
              (try rw [show ((0 : Int)).toNat = 0 from rfl] at hx110_0)
              (try rw [Addr.add_zero'] at hx110_0)
              replace p110 := eq_true p110
              replace q110 := eq_true q110
              go_wp2
              go_meet
              case rel => exact ⟨_, (1), (by first | rfl | (simp; done) | (simp [*]; done)), H', ⟨by first | omega | exact Nat.le_refl _⟩, by repeat (first | exact Drawn0.refl _ | apply Drawn0.step)⟩
      · rw [if_neg c4] at H
        exact absurd H (by simp)
    case rest =>
      clear HC3
      try clear p1
      try clear q1
      try clear hx1
      try clear qi1
      try clear c2
      try clear c2b0
      try clear c2b1
      try clear c2b2
      try clear p2
      try clear c4
      try clear c4b0
      try clear c4b1
      try clear c5
      try clear c5b0
      try clear c6
      try clear c6b0
      try clear c7
      try clear c7b0
      try clear hx108_0
      try clear hx109_0
      try clear hx110_0
      try clear p108
      try clear p109
      try clear p110
      try clear q108
      try clear q109
      try clear q110
      obtain ⟨kq, x4_2, rfl, HA, HJ2, ⟨mc2, rfl⟩⟩ := hcut
      cases kq with
      | zero => exact absurd HA.out (by simp [dragomanref03_bounds.j0])
      | succ kj2 =>
        have H := HA.out
        clear HA
        simp only [dragomanref03_bounds.j0] at H
        by_cases c8 : (l0.length : Int) ≥ x4_2
        · rw [if_pos c8] at H
          have c8b0 : decide (x4_2 ≤ (l0.length : Int)) = true := decide_eq_true c8
          clear c8
          simp only [Option.some.injEq, Prod.mk.injEq] at H
          obtain ⟨rfl, rfl⟩ := H
          go_wp2
          go_ret2
          exact ⟨by first | rfl | (simp; done) | (simp [*]; done), by repeat (first | exact Drawn0.refl _ | apply Drawn0.step)⟩
        · rw [if_neg c8] at H
          have c8b0 : decide (x4_2 ≤ (l0.length : Int)) = false := decide_eq_false c8
          clear c8
          by_cases c9 : (l0.length : Int) = 1
          · rw [if_pos c9] at H
            have c9b0 : ((l0.length : Int) == 1) = true := beq_iff_eq.mpr c9
            have c9b1 : ((l0.length : Int) != 1) = false := bne_eq_false_iff_eq.mpr c9
            clear c9
            by_cases c10 : 0 < (l0.length : Int)
            · rw [if_pos c10] at H
              have c10b0 : decide (0 < (l0.length : Int)) = true := decide_eq_true c10
              have c10b1 : decide (0 < l0.length) = true := decide_eq_true (by omega)
              clear c10
              by_cases c11 : (rd l0 0) = 224
              · rw [if_pos c11] at H
                have c11b0 : ((rd l0 0) == 224) = true := beq_iff_eq.mpr c11
                have c11b1 : ((rd l0 0) != 224) = false := bne_eq_false_iff_eq.mpr c11
                clear c11
                simp only [Option.some.injEq, Prod.mk.injEq] at H
                obtain ⟨rfl, rfl⟩ := H
                have p111 : 0 ≤ (0 : Int) := (by omega)
                have q111 : 0 < (l0.length : Int) := of_decide_eq_true (by first | (with_reducible assumption) | assumption)
                obtain ⟨ad111, e111, hx111_0⟩ := Kd.at_int HR0.out 0 p111 q111
                cases e111
                have qi111 : (0 < l0.length) = True := eq_true (by omega)
                (try rw [show ((0 : Int)).toNat = 0 from rfl] at hx111_0)
                (try rw [Addr.add_zero'] at hx111_0)
                replace p111 := eq_true p111
                replace q111 := eq_true q111
                go_wp2
                go_ret2
                exact ⟨by first | rfl | (simp; done) | (simp [*]; done), by repeat (first | exact Drawn0.refl _ | apply Drawn0.step)⟩
              · rw [if_neg c11] at H
                have c11b0 : ((rd l0 0) == 224) = false := beq_eq_false_iff_ne.mpr c11
                have c11b1 : ((rd l0 0) != 224) = true := bne_iff_ne.mpr c11
                by_cases c12 : (rd l0 0) = 237
                · rw [if_pos c12] at H
                  have c12b0 : ((rd l0 0) == 237) = true := beq_iff_eq.mpr c12
                  have c12b1 : ((rd l0 0) != 237) = false := bne_eq_false_iff_eq.mpr c12
                  clear c12
                  simp only [Option.some.injEq, Prod.mk.injEq] at H
                  obtain ⟨rfl, rfl⟩ := H
                  have p111 : 0 ≤ (0 : Int) := (by omega)
                  have q111 : 0 < (l0.length : Int) := of_decide_eq_true (by first | (with_reducible assumption) | assumption)
                  obtain ⟨ad111, e111, hx111_0⟩ := Kd.at_int HR0.out 0 p111 q111
                  cases e111
                  have qi111 : (0 < l0.length) = True := eq_true (by omega)
                  (try rw [show ((0 : Int)).toNat = 0 from rfl] at hx111_0)
                  (try rw [Addr.add_zero'] at hx111_0)
                  replace p111 := eq_true p111
                  replace q111 := eq_true q111
                  go_wp2
                  go_ret2
                  exact ⟨by first | rfl | (simp; done) | (simp [*]; done), by repeat (first | exact Drawn0.refl _ | apply Drawn0.step)⟩
                · rw [if_neg c12] at H
                  have c12b0 : ((rd l0 0) == 237) = false := beq_eq_false_iff_ne.mpr c12
                  have c12b1 : ((rd l0 0) != 237) = true := bne_iff_ne.mpr c12
                  by_cases c13 : (rd l0 0) = 240
                  · rw [if_pos c13] at H
                    have c13b0 : ((rd l0 0) == 240) = true := beq_iff_eq.mpr c13
                    have c13b1 : ((rd l0 0) != 240) = false := bne_eq_false_iff_eq.mpr c13
                    clear c13
                    simp only [Option.some.injEq, Prod.mk.injEq] at H
                    obtain ⟨rfl, rfl⟩ := H
                    have p111 : 0 ≤ (0 : Int) := (by omega)
                    have q111 : 0 < (l0.length : Int) := of_decide_eq_true (by first | (with_reducible assumption) | assumption)
                    obtain ⟨ad111, e111, hx111_0⟩ := Kd.at_int HR0.out 0 p111 q111
                    cases e111
                    have qi111 : (0 < l0.length) = True := eq_true (by omega)
                    (try rw [show ((0 : Int)).toNat = 0 from rfl] at hx111_0)
                    (try rw [Addr.add_zero'] at hx111_0)
                    replace p111 := eq_true p111
                    replace q111 := eq_true q111
                    go_wp2
                    go_ret2
                    exact ⟨by first | rfl | (simp; done) | (simp [*]; done), by repeat (first | exact Drawn0.refl _ | apply Drawn0.step)⟩
                  · rw [if_neg c13] at H
                    have c13b0 : ((rd l0 0) == 240) = false := beq_eq_false_iff_ne.mpr c13
                    have c13b1 : ((rd l0 0) != 240) = true := bne_iff_ne.mpr c13
                    by_cases c14 : (rd l0 0) = 244
                    · rw [if_pos c14] at H
                      have c14b0 : ((rd l0 0) == 244) = true := beq_iff_eq.mpr c14
                      have c14b1 : ((rd l0 0) != 244) = false := bne_eq_false_iff_eq.mpr c14
                      clear c14
                      simp only [Option.some.injEq, Prod.mk.injEq] at H
                      obtain ⟨rfl, rfl⟩ := H
                      have p111 : 0 ≤ (0 : Int) := (by omega)
                      have q111 : 0 < (l0.length : Int) := of_decide_eq_true (by first | (with_reducible assumption) | assumption)
                      obtain ⟨ad111, e111, hx111_0⟩ := Kd.at_int HR0.out 0 p111 q111
                      cases e111
                      have qi111 : (0 < l0.length) = True := eq_true (by omega)
                      (try rw [show ((0 : Int)).toNat = 0 from rfl] at hx111_0)
                      (try rw [Addr.add_zero'] at hx111_0)
                      replace p111 := eq_true p111
                      replace q111 := eq_true q111
                      go_wp2
                      go_ret2
                      exact ⟨by first | rfl | (simp; done) | (simp [*]; done), by repeat (first | exact Drawn0.refl _ | apply Drawn0.step)⟩
                    · rw [if_neg c14] at H
                      have c14b0 : ((rd l0 0) == 244) = false := beq_eq_false_iff_ne.mpr c14
                      have c14b1 : ((rd l0 0) != 244) = true := bne_iff_ne.mpr c14
                      simp only [Option.some.injEq, Prod.mk.injEq] at H
                      obtain ⟨rfl, rfl⟩ := H
                      have p111 : 0 ≤ (0 : Int) := (by omega)
                      have q111 : 0 < (l0.length : Int) := of_decide_eq_true (by first | (with_reducible assumption) | assumption)
                      obtain ⟨ad111, e111, hx111_0⟩ := Kd.at_int HR0.out 0 p111 q111
                      cases e111
                      have qi111 : (0 < l0.length) = True := eq_true (by omega)
                      (try rw [show ((0 : Int)).toNat = 0 from rfl] at hx111_0)
                      (try rw [Addr.add_zero'] at hx111_0)
                      replace p111 := eq_true p111
                      replace q111 := eq_true q111
                      go_wp2
                      go_ret2
                      exact ⟨by first | rfl | (simp; done) | (simp [*]; done), by repeat (first | exact Drawn0.refl _ | apply Drawn0.step)⟩
            · rw [if_neg c10] at H
              exact absurd H (by simp)
          · rw [if_neg c9] at H
            have c9b0 : ((l0.length : Int) == 1) = false := beq_eq_false_iff_ne.mpr c9
            have c9b1 : ((l0.length : Int) != 1) = true := bne_iff_ne.mpr c9
            simp only [Option.some.injEq, Prod.mk.injEq] at H
            obtain ⟨rfl, rfl⟩ := H
            go_wp2
            go_ret2
            exact ⟨by first | rfl | (simp; done) | (simp [*]; done), by repeat (first | exact Drawn0.refl _ | apply Drawn0.step)⟩

end Go.Proofs.Ytaogccmbdmheeaa.PUtf8Gets
