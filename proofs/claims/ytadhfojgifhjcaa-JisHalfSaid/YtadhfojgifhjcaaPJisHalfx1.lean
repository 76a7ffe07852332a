-- PRINTED BY print.sh 35421559b90ae4d0a3588c463048766b98c2df88dd9212a6774a882060cdf62d: not written by this session
import Derived.Test.YtadhfojgifhjcaaPJisHalfx0
namespace Go.Proofs.Ytadhfojgifhjcaa.PJisHalf
open Go.RowKit Go.Proofs.YtadhfojgifhjcaaW.PrintWords Go.Proofs.YtadhfojgifhjcaaW.PrintLast Go.Proofs.YtadhfojgifhjcaaW.PrintMore
attribute [local go_sem] max2_int min2_int max_two min_two max_three min_three max_four min_four   -- for this text's walks alone
set_option linter.unusedVariables false
set_option linter.unusedSimpArgs false

/-! ### jis_Half: function 27 -/
def jis_Half.f (a0 : Int) : Option (Int × Bool) := if a0 = 92 then (some (165, true)) else (if a0 = 126 then (some (8254, true)) else (if a0 < 128 then (some (wrap32 (a0), true)) else (if a0 < 161 then (some (0, false)) else (if a0 > 223 then (some (0, false)) else (some (wrap32 ((wrap32 (65377 + (wrap32 (a0)))) - 161), true))))))
set_option maxHeartbeats 8000000 in
set_option maxRecDepth 100000 in
theorem jis_Half.calls (a0 : Int) (r1 : Int) (r2 : Bool) (w : World) (h : jis_Half.f a0 = some (r1, r2)) :
    Calls Try.prog 27 #[.int .u8 a0] w fun e w' => e = .returned (.tuple #[.int .i32 r1, .bool r2]) ∧ Drawn0 w w' := by
  have H : (if a0 = 92 then (some (165, true)) else (if a0 = 126 then (some (8254, true)) else (if a0 < 128 then (some (wrap32 (a0), true)) else (if a0 < 161 then (some (0, false)) else (if a0 > 223 then (some (0, false)) else (some (wrap32 ((wrap32 (65377 + (wrap32 (a0)))) - 161), true))))))) = some (r1, r2) := h
  clear h
  by_cases c2 : a0 = 92
  · rw [if_pos c2] at H
    have c2b0 : (a0 == 92) = true := beq_iff_eq.mpr c2
    have c2b1 : (a0 != 92) = false := bne_eq_false_iff_eq.mpr c2
    clear c2
    simp only [Option.some.injEq, Prod.mk.injEq] at H
    obtain ⟨rfl, rfl⟩ := H
    go_enter Try.func27, Try.ntmps27
    go_wp2
    go_ret2
    exact ⟨by first | rfl | (simp; done) | (simp [*]; done), by repeat (first | exact Drawn0.refl _ | apply Drawn0.step)⟩
  · rw [if_neg c2] at H
    have c2b0 : (a0 == 92) = false := beq_eq_false_iff_ne.mpr c2
    have c2b1 : (a0 != 92) = true := bne_iff_ne.mpr c2
    by_cases c3 : a0 = 126
    · rw [if_pos c3] at H
      have c3b0 : (a0 == 126) = true := beq_iff_eq.mpr c3
      have c3b1 : (a0 != 126) = false := bne_eq_false_iff_eq.mpr c3
      clear c3
      simp only [Option.some.injEq, Prod.mk.injEq] at H
      obtain ⟨rfl, rfl⟩ := H
      go_enter Try.func27, Try.ntmps27
      go_wp2
      go_ret2
      exact ⟨by first | rfl | (simp; done) | (simp [*]; done), by repeat (first | exact Drawn0.refl _ | apply Drawn0.step)⟩
    · rw [if_neg c3] at H
      have c3b0 : (a0 == 126) = false := beq_eq_false_iff_ne.mpr c3
      have c3b1 : (a0 != 126) = true := bne_iff_ne.mpr c3
      by_cases c4 : a0 < 128
      · rw [if_pos c4] at H
        have c4b0 : decide (a0 < 128) = true := decide_eq_true c4
        clear c4
        simp only [Option.some.injEq, Prod.mk.injEq] at H
        obtain ⟨rfl, rfl⟩ := H
        go_enter Try.func27, Try.ntmps27
        go_wp2
        go_ret2
        exact ⟨by first | rfl | (simp; done) | (simp [*]; done), by repeat (first | exact Drawn0.refl _ | apply Drawn0.step)⟩
      · rw [if_neg c4] at H
        have c4b0 : decide (a0 < 128) = false := decide_eq_false c4
        clear c4
        by_cases c5 : a0 < 161
        · rw [if_pos c5] at H
          have c5b0 : decide (a0 < 161) = true := decide_eq_true c5
          clear c5
          simp only [Option.some.injEq, Prod.mk.injEq] at H
          obtain ⟨rfl, rfl⟩ := H
          go_enter Try.func27, Try.ntmps27
          go_wp2
          go_ret2
          exact ⟨by first | rfl | (simp; done) | (simp [*]; done), by repeat (first | exact Drawn0.refl _ | apply Drawn0.step)⟩
        · rw [if_neg c5] at H
          have c5b0 : decide (a0 < 161) = false := decide_eq_false c5
          clear c5
          by_cases c6 : a0 > 223
          · rw [if_pos c6] at H
            have c6b0 : decide (223 < a0) = true := decide_eq_true c6
            clear c6
            simp only [Option.some.injEq, Prod.mk.injEq] at H
            obtain ⟨rfl, rfl⟩ := H
            go_enter Try.func27, Try.ntmps27
            go_wp2
            go_ret2
            exact ⟨by first | rfl | (simp; done) | (simp [*]; done), by repeat (first | exact Drawn0.refl _ | apply Drawn0.step)⟩
          · rw [if_neg c6] at H
            have c6b0 : decide (223 < a0) = false := decide_eq_false c6
            clear c6
            simp only [Option.some.injEq, Prod.mk.injEq] at H
            obtain ⟨rfl, rfl⟩ := H
            go_enter Try.func27, Try.ntmps27
            go_wp2
            go_ret2
            exact ⟨by first | rfl | (simp; done) | (simp [*]; done), by repeat (first | exact Drawn0.refl _ | apply Drawn0.step)⟩

/-! ### dragomanref14_Half: function 28 -/
def dragomanref14_Half.f (a0 : Int) : Option (Int × Bool) := if a0 = 92 then (some (165, true)) else (if a0 = 126 then (some (8254, true)) else (if a0 < 128 then (some (wrap32 (a0), true)) else (if a0 ≥ 161 then (if a0 ≤ 223 then (some (65377 + ((a0 - 161) % 256), true)) else (some (0, false))) else (some (0, false)))))
set_option maxHeartbeats 8000000 in
set_option maxRecDepth 100000 in
theorem dragomanref14_Half.calls (a0 : Int) (r1 : Int) (r2 : Bool) (w : World) (h : dragomanref14_Half.f a0 = some (r1, r2)) :
    Calls Try.prog 28 #[.int .u8 a0] w fun e w' => e = .returned (.tuple #[.int .i32 r1, .bool r2]) ∧ Drawn0 w w' := by
  have H : (if a0 = 92 then (some (165, true)) else (if a0 = 126 then (some (8254, true)) else (if a0 < 128 then (some (wrap32 (a0), true)) else (if a0 ≥ 161 then (if a0 ≤ 223 then (some (65377 + ((a0 - 161) % 256), true)) else (some (0, false))) else (some (0, false)))))) = some (r1, r2) := h
  clear h
  by_cases c2 : a0 = 92
  · rw [if_pos c2] at H
    have c2b0 : (a0 == 92) = true := beq_iff_eq.mpr c2
    have c2b1 : (a0 != 92) = false := bne_eq_false_iff_eq.mpr c2
    clear c2
    simp only [Option.some.injEq, Prod.mk.injEq] at H
    obtain ⟨rfl, rfl⟩ := H
    go_enter Try.func28, Try.ntmps28
    go_wp2
    go_ret2
    exact ⟨by first | rfl | (simp; done) | (simp [*]; done), by repeat (first | exact Drawn0.refl _ | apply Drawn0.step)⟩
  · rw [if_neg c2] at H
    have c2b0 : (a0 == 92) = false := beq_eq_false_iff_ne.mpr c2
    have c2b1 : (a0 != 92) = true := bne_iff_ne.mpr c2
    by_cases c3 : a0 = 126
    · rw [if_pos c3] at H
      have c3b0 : (a0 == 126) = true := beq_iff_eq.mpr c3
      have c3b1 : (a0 != 126) = false := bne_eq_false_iff_eq.mpr c3
      clear c3
      simp only [Option.some.injEq, Prod.mk.injEq] at H
      obtain ⟨rfl, rfl⟩ := H
      go_enter Try.func28, Try.ntmps28
      go_wp2
      go_ret2
      exact ⟨by first | rfl | (simp; done) | (simp [*]; done), by repeat (first | exact Drawn0.refl _ | apply Drawn0.step)⟩
    · rw [if_neg c3] at H
      have c3b0 : (a0 == 126) = false := beq_eq_false_iff_ne.mpr c3
      have c3b1 : (a0 != 126) = true := bne_iff_ne.mpr c3
      by_cases c4 : a0 < 128
      · rw [if_pos c4] at H
        have c4b0 : decide (a0 < 128) = true := decide_eq_true c4
        clear c4
        simp only [Option.some.injEq, Prod.mk.injEq] at H
        obtain ⟨rfl, rfl⟩ := H
        go_enter Try.func28, Try.ntmps28
        go_wp2
        go_ret2
        exact ⟨by first | rfl | (simp; done) | (simp [*]; done), by repeat (first | exact Drawn0.refl _ | apply Drawn0.step)⟩
      · rw [if_neg c4] at H
        have c4b0 : decide (a0 < 128) = false := decide_eq_false c4
        clear c4
        by_cases c5 : a0 ≥ 161
        · rw [if_pos c5] at H
          have c5b0 : decide (161 ≤ a0) = true := decide_eq_true c5
          clear c5
          by_cases c6 : a0 ≤ 223
          · rw [if_pos c6] at H
            have c6b0 : decide (a0 ≤ 223) = true := decide_eq_true c6
            clear c6
            simp only [Option.some.injEq, Prod.mk.injEq] at H
            obtain ⟨rfl, rfl⟩ := H
            go_enter Try.func28, Try.ntmps28
            go_wp2
            go_ret2
            exact ⟨by first | rfl | (simp; done) | (simp [*]; done), by repeat (first | exact Drawn0.refl _ | apply Drawn0.step)⟩
          · rw [if_neg c6] at H
            have c6b0 : decide (a0 ≤ 223) = false := decide_eq_false c6
            clear c6
            simp only [Option.some.injEq, Prod.mk.injEq] at H
            obtain ⟨rfl, rfl⟩ := H
            go_enter Try.func28, Try.ntmps28
            go_wp2
            go_ret2
            exact ⟨by first | rfl | (simp; done) | (simp [*]; done), by repeat (first | exact Drawn0.refl _ | apply Drawn0.step)⟩
        · rw [if_neg c5] at H
          have c5b0 : decide (161 ≤ a0) = false := decide_eq_false c5
          clear c5
          simp only [Option.some.injEq, Prod.mk.injEq] at H
          obtain ⟨rfl, rfl⟩ := H
          go_enter Try.func28, Try.ntmps28
          go_wp2
          go_ret2
          exact ⟨by first | rfl | (simp; done) | (simp [*]; done), by repeat (first | exact Drawn0.refl _ | apply Drawn0.step)⟩

/-! ### jis_HalfByte: function 29 -/
def jis_HalfByte.j0 : Nat → Int → Bool → Option (Int × Bool)
  | 0, _, _ => none
  | k + 1, x0, x10 => if x10 = true then (some ((x0) % 256, true)) else (if x0 ≥ 65377 then (if x0 ≤ 65439 then (some ((wrap32 ((wrap32 (x0 - 65377)) + 161)) % 256, true)) else (some (0, false))) else (some (0, false)))
def jis_HalfByte.f (k : Nat) (a0 : Int) : Option (Int × Bool) := if a0 = 165 then (some (92, true)) else (if a0 = 8254 then (some (126, true)) else (if a0 ≥ 0 then (if a0 < 128 then (if a0 = 92 then (jis_HalfByte.j0 k a0 false) else (jis_HalfByte.j0 k a0 (a0 != 126))) else (jis_HalfByte.j0 k a0 false)) else (jis_HalfByte.j0 k a0 false)))
theorem jis_HalfByte.mono_l : ∀ k, (∀ y0 y1, LeO (jis_HalfByte.j0 k y0 y1) (jis_HalfByte.j0 (k + 1) y0 y1))
  | 0 => fun _ _ r h => by simp [jis_HalfByte.j0] at h
  | k + 1 => by
    have ih0 := jis_HalfByte.mono_l k
    · intro y0 y1
      unfold jis_HalfByte.j0
      repeat' first
      | (with_reducible exact ih0 _ _)
      | (with_reducible exact LeO.refl _)
      | (with_reducible exact LeO.none _)
      | (with_reducible refine LeO.ite ?_ ?_)
      | (with_reducible refine LeO.bind ?_ (fun _ => ?_))
      | exact ih0 _ _
      | exact LeO.none _
      | refine LeO.ite ?_ ?_
      | refine LeO.bind ?_ (fun _ => ?_)
theorem jis_HalfByte.mono : ∀ a0 k, LeO (jis_HalfByte.f k a0) (jis_HalfByte.f (k + 1) a0) := by
  intro a0 k
  have ih0 := jis_HalfByte.mono_l k
  unfold jis_HalfByte.f
  repeat' first
      | (with_reducible exact ih0 _ _)
      | (with_reducible exact LeO.refl _)
      | (with_reducible exact LeO.none _)
      | (with_reducible refine LeO.ite ?_ ?_)
      | (with_reducible refine LeO.bind ?_ (fun _ => ?_))
      | exact ih0 _ _
      | exact LeO.none _
      | refine LeO.ite ?_ ?_
      | refine LeO.bind ?_ (fun _ => ?_)
set_option maxHeartbeats 8000000 in
set_option maxRecDepth 100000 in
theorem jis_HalfByte.calls (k : Nat) (a0 : Int) (r1 : Int) (r2 : Bool) (w : World) (h : jis_HalfByte.f k a0 = some (r1, r2)) :
    Calls Try.prog 29 #[.int .i32 a0] w fun e w' => e = .returned (.tuple #[.int .u8 r1, .bool r2]) ∧ Drawn0 w w' := by
  have H : (if a0 = 165 then (some (92, true)) else (if a0 = 8254 then (some (126, true)) else (if a0 ≥ 0 then (if a0 < 128 then (if a0 = 92 then (jis_HalfByte.j0 k a0 false) else (jis_HalfByte.j0 k a0 (a0 != 126))) else (jis_HalfByte.j0 k a0 false)) else (jis_HalfByte.j0 k a0 false)))) = some (r1, r2) := h
  clear h
  by_cases c2 : a0 = 165
  · rw [if_pos c2] at H
    have c2b0 : (a0 == 165) = true := beq_iff_eq.mpr c2
    have c2b1 : (a0 != 165) = false := bne_eq_false_iff_eq.mpr c2
    clear c2
    simp only [Option.some.injEq, Prod.mk.injEq] at H
    obtain ⟨rfl, rfl⟩ := H
    go_enter Try.func29, Try.ntmps29
    go_wp2
    go_ret2
    exact ⟨by first | rfl | (simp; done) | (simp [*]; done), by repeat (first | exact Drawn0.refl _ | apply Drawn0.step)⟩
  · rw [if_neg c2] at H
    have c2b0 : (a0 == 165) = false := beq_eq_false_iff_ne.mpr c2
    have c2b1 : (a0 != 165) = true := bne_iff_ne.mpr c2
    by_cases c3 : a0 = 8254
    · rw [if_pos c3] at H
      have c3b0 : (a0 == 8254) = true := beq_iff_eq.mpr c3
      have c3b1 : (a0 != 8254) = false := bne_eq_false_iff_eq.mpr c3
      clear c3
      simp only [Option.some.injEq, Prod.mk.injEq] at H
      obtain ⟨rfl, rfl⟩ := H
      go_enter Try.func29, Try.ntmps29
      go_wp2
      go_ret2
      exact ⟨by first | rfl | (simp; done) | (simp [*]; done), by repeat (first | exact Drawn0.refl _ | apply Drawn0.step)⟩
    · rw [if_neg c3] at H
      have c3b0 : (a0 == 8254) = false := beq_eq_false_iff_ne.mpr c3
      have c3b1 : (a0 != 8254) = true := bne_iff_ne.mpr c3
      have HC4 := Aside0.mk H
      clear H
      go_enter Try.func29, Try.ntmps29
      go_upto_region 5 with (fail)
      go_cut [10] (fun v10 wc => ∃ (kq : Nat) (x10_3 : Bool), v10 = .bool x10_3 ∧ Aside0 (jis_HalfByte.j0 kq a0 x10_3 = some (r1, r2)) ∧ Aside0 (kq ≤ k) ∧ Drawn0 w wc)
      case first =>
        have H := HC4.out
        clear HC4
        by_cases c5 : a0 ≥ 0
        · rw [if_pos c5] at H
          have c5b0 : decide (0 ≤ a0) = true := decide_eq_true c5
          clear c5
          (first | rw [c5b0] | (simp only [i64_w, i32_w]; rw [c5b0]) | skip)
          by_cases c6 : a0 < 128
          · rw [if_pos c6] at H
            have c6b0 : decide (a0 < 128) = true := decide_eq_true c6
            clear c6
            by_cases c7 : a0 = 92
            · rw [if_pos c7] at H
              have c7b0 : (a0 == 92) = true := beq_iff_eq.mpr c7
              have c7b1 : (a0 != 92) = false := bne_eq_false_iff_eq.mpr c7
              clear c7
              have H' := Aside0.mk H
              clear H
              go_wp2
              go_meet
              case rel => exact ⟨_, (false), (by first | rfl | (simp; done) | (simp [*]; done)), H', ⟨by first | omega | exact Nat.le_refl _⟩, by repeat (first | exact Drawn0.refl _ | apply Drawn0.step)⟩
            · rw [if_neg c7] at H
              have c7b0 : (a0 == 92) = false := beq_eq_false_iff_ne.mpr c7
              have c7b1 : (a0 != 92) = true := bne_iff_ne.mpr c7
              have H' := Aside0.mk H
              clear H
              go_wp2
              go_meet
              case rel => exact ⟨_, ((a0 != 126)), (by first | rfl | (simp; done) | (simp [*]; done)), H', ⟨by first | omega | exact Nat.le_refl _⟩, by repeat (first | exact Drawn0.refl _ | apply Drawn0.step)⟩
          · rw [if_neg c6] at H
            have c6b0 : decide (a0 < 128) = false := decide_eq_false c6
            clear c6
            have H' := Aside0.mk H
            clear H
            go_wp2
            go_meet
            case rel => exact ⟨_, (false), (by first | rfl | (simp; done) | (simp [*]; done)), H', ⟨by first | omega | exact Nat.le_refl _⟩, by repeat (first | exact Drawn0.refl _ | apply Drawn0.step)⟩
        · rw [if_neg c5] at H
          have c5b0 : decide (0 ≤ a0) = false := decide_eq_false c5
          clear c5
          (first | rw [c5b0] | (simp only [i64_w, i32_w]; rw [c5b0]) | skip)
          have H' := Aside0.mk H
          clear H
          go_wp2
          go_meet
          case rel => exact ⟨_, (false), (by first | rfl | (simp; done) | (simp [*]; done)), H', ⟨by first | omega | exact Nat.le_refl _⟩, by repeat (first | exact Drawn0.refl _ | apply Drawn0.step)⟩
      case rest =>
        clear HC4
        try clear c2
        try clear c2b0
        try clear c2b1
        try clear p2
        try clear c3
        try clear c3b0
        try clear c3b1
        try clear c5
        try clear c5b0
        try clear c6
        try clear c6b0
        try clear c7
        try clear c7b0
        try clear c7b1
        obtain ⟨kq, x10_3, rfl, HA, HJ3, ⟨mc3, rfl⟩⟩ := hcut
        cases kq with
        | zero => exact absurd HA.out (by simp [jis_HalfByte.j0])
        | succ kj3 =>
          have H := HA.out
          clear HA
          simp only [jis_HalfByte.j0] at H
          by_cases c8 : x10_3 = true
          · subst c8
            have H1 : (some ((a0) % 256, true)) = some (r1, r2) := by rw [if_pos rfl] at H; exact H
            clear H
            have H := H1
            clear H1
            simp only [Option.some.injEq, Prod.mk.injEq] at H
            obtain ⟨rfl, rfl⟩ := H
            go_wp2
            go_ret2
            exact ⟨by first | rfl | (simp; done) | (simp [*]; done), by repeat (first | exact Drawn0.refl _ | apply Drawn0.step)⟩
          · replace c8 := Bool.eq_false_iff.mpr c8
            subst c8
            have H1 : (if a0 ≥ 65377 then (if a0 ≤ 65439 then (some ((wrap32 ((wrap32 (a0 - 65377)) + 161)) % 256, true)) else (some (0, false))) else (some (0, false))) = some (r1, r2) := by rw [if_neg (show ¬ (false = true) by decide)] at H; exact H
            clear H
            have H := H1
            clear H1
            by_cases c9 : a0 ≥ 65377
            · rw [if_pos c9] at H
              have c9b0 : decide (65377 ≤ a0) = true := decide_eq_true c9
              clear c9
              by_cases c10 : a0 ≤ 65439
              · rw [if_pos c10] at H
                have c10b0 : decide (a0 ≤ 65439) = true := decide_eq_true c10
                clear c10
                simp only [Option.some.injEq, Prod.mk.injEq] at H
                obtain ⟨rfl, rfl⟩ := H
                go_wp2
                go_ret2
                exact ⟨by first | rfl | (simp; done) | (simp [*]; done), by repeat (first | exact Drawn0.refl _ | apply Drawn0.step)⟩
              · rw [if_neg c10] at H
                have c10b0 : decide (a0 ≤ 65439) = false := decide_eq_false c10
                clear c10
                simp only [Option.some.injEq, Prod.mk.injEq] at H
                obtain ⟨rfl, rfl⟩ := H
                go_wp2
                go_ret2
                exact ⟨by first | rfl | (simp; done) | (simp [*]; done), by repeat (first | exact Drawn0.refl _ | apply Drawn0.step)⟩
            · rw [if_neg c9] at H
              have c9b0 : decide (65377 ≤ a0) = false := decide_eq_false c9
              clear c9
              simp only [Option.some.injEq, Prod.mk.injEq] at H
              obtain ⟨rfl, rfl⟩ := H
              go_wp2
              go_ret2
              exact ⟨by first | rfl | (simp; done) | (simp [*]; done), by repeat (first | exact Drawn0.refl _ | apply Drawn0.step)⟩

/-! ### dragomanref14_HalfByte: function 30 -/
def dragomanref14_HalfByte.l0 : Nat → Int → Int → Option (Int × Bool)
  | 0, _, _ => none
  | k + 1, x0, x4 => if x4 < 256 then ((dragomanref14_Half.f ((x4) % 256)).bind fun bt101 => (if bt101.2 = true then (if bt101.1 = x0 then (some ((x4) % 256, true)) else (dragomanref14_HalfByte.l0 k x0 (wrap64 (x4 + 1)))) else (dragomanref14_HalfByte.l0 k x0 (wrap64 (x4 + 1))))) else (some (0, false))
def dragomanref14_HalfByte.f (k : Nat) (a0 : Int) : Option (Int × Bool) := dragomanref14_HalfByte.l0 k a0 0
theorem dragomanref14_HalfByte.mono_l : ∀ k, (∀ y0 y1, LeO (dragomanref14_HalfByte.l0 k y0 y1) (dragomanref14_HalfByte.l0 (k + 1) y0 y1))
  | 0 => fun _ _ r h => by simp [dragomanref14_HalfByte.l0] at h
  | k + 1 => by
    have ih0 := dragomanref14_HalfByte.mono_l k
    · intro y0 y1
      unfold dragomanref14_HalfByte.l0
      repeat' first
      | (with_reducible exact ih0 _ _)
      | (with_reducible exact LeO.refl _)
      | (with_reducible exact LeO.none _)
      | (with_reducible refine LeO.ite ?_ ?_)
      | (with_reducible refine LeO.bind ?_ (fun _ => ?_))
      | exact ih0 _ _
      | exact LeO.none _
      | refine LeO.ite ?_ ?_
      | refine LeO.bind ?_ (fun _ => ?_)
theorem dragomanref14_HalfByte.mono : ∀ a0 k, LeO (dragomanref14_HalfByte.f k a0) (dragomanref14_HalfByte.f (k + 1) a0) := by
  intro a0 k
  have ih0 := dragomanref14_HalfByte.mono_l k
  unfold dragomanref14_HalfByte.f
  repeat' first
      | (with_reducible exact ih0 _ _)
      | (with_reducible exact LeO.refl _)
      | (with_reducible exact LeO.none _)
      | (with_reducible refine LeO.ite ?_ ?_)
      | (with_reducible refine LeO.bind ?_ (fun _ => ?_))
      | exact ih0 _ _
      | exact LeO.none _
      | refine LeO.ite ?_ ?_
      | refine LeO.bind ?_ (fun _ => ?_)
set_option maxHeartbeats 8000000 in
set_option maxRecDepth 100000 in
theorem dragomanref14_HalfByte.calls (k : Nat) (a0 : Int) (r1 : Int) (r2 : Bool) (w : World) (h : dragomanref14_HalfByte.f k a0 = some (r1, r2)) :
    Calls Try.prog 30 #[.int .i32 a0] w fun e w' => e = .returned (.tuple #[.int .u8 r1, .bool r2]) ∧ Drawn0 w w' := by
  have H : (dragomanref14_HalfByte.l0 k a0 0) = some (r1, r2) := h
  clear h
  have H' := Aside0.mk H
  clear H
  go_enter Try.func30, Try.ntmps30
  go_wp2
  go_loopg [4] k (fun kq v4 w' => ∃ (x4_1 : Int), v4 = .int .i64 x4_1 ∧ Aside0 (dragomanref14_HalfByte.l0 kq a0 x4_1 = some (r1, r2)) ∧ Aside0 (kq ≤ k) ∧ Drawn0 w w')
  case atStart => exact ⟨(0), (by first | rfl | (simp; done) | (simp [*]; done)), H', ⟨Nat.le_refl _⟩, by repeat (first | exact Drawn0.refl _ | apply Drawn0.step)⟩
  case round =>
    clear H'
    obtain ⟨x4_1, rfl, HA, HK1, ⟨m1, rfl⟩⟩ := hrel
    cases gk with
    | zero => exact absurd HA.out (by simp [dragomanref14_HalfByte.l0])
    | succ k1 =>
      have H := HA.out
      clear HA
      simp only [dragomanref14_HalfByte.l0] at H
      by_cases c2 : x4_1 < 256
      · rw [if_pos c2] at H
        have c2b0 : decide (x4_1 < 256) = true := decide_eq_true c2
        clear c2
        replace H := Option.bind_eq_some_iff.mp H
        obtain ⟨⟨t101, t102⟩, A30, H⟩ := H
        replace H : (if t102 = true then (if t101 = a0 then (some ((x4_1) % 256, true)) else (dragomanref14_HalfByte.l0 k1 a0 (wrap64 (x4_1 + 1)))) else (dragomanref14_HalfByte.l0 k1 a0 (wrap64 (x4_1 + 1)))) = some (r1, r2) := H
        have A3 := Aside0.mk A30
        clear A30
        by_cases c4 : t102 = true
        · subst c4
          have H1 : (if t101 = a0 then (some ((x4_1) % 256, true)) else (dragomanref14_HalfByte.l0 k1 a0 (wrap64 (x4_1 + 1)))) = some (r1, r2) := by rw [if_pos rfl] at H; exact H
          clear H
          have H := H1
          clear H1
          by_cases c5 : t101 = a0
          · rw [if_pos c5] at H
            have c5b0 : (t101 == a0) = true := beq_iff_eq.mpr c5
            have c5b1 : (t101 != a0) = false := bne_eq_false_iff_eq.mpr c5
            clear c5
            simp only [Option.some.injEq, Prod.mk.injEq] at H
            obtain ⟨rfl, rfl⟩ := H
            go_wp2_with (first | ((with_reducible refine gate_callee (f := 28) rfl ?_); refine goesL_ (some 14) rfl rfl Try.func28 (by kernel_rfl) rfl #[.int .u8 ((x4_1) % 256)] rfl (by (try simp only [List.map_toArray, List.map_cons, List.map_nil]); first | done | rfl | (simp only [List.length_drop, List.length_take]; rfl)) ?_; (with_reducible refine (dragomanref14_Half.calls ((x4_1) % 256) t101 true _ A3.out).mono ?_); rintro e w' ⟨rfl, ⟨nd, rfl⟩⟩; refine ⟨_, rfl, ?_⟩))
            go_ret2
            exact ⟨by first | rfl | (simp; done) | (simp [*]; done), by repeat (first | exact Drawn0.refl _ | apply Drawn0.step)⟩
          · rw [if_neg c5] at H
            have c5b0 : (t101 == a0) = false := beq_eq_false_iff_ne.mpr c5
            have c5b1 : (t101 != a0) = true := bne_iff_ne.mpr c5
            have H' := Aside0.mk H
            clear H
            go_wp2_with (first | ((with_reducible refine gate_callee (f := 28) rfl ?_); refine goesL_ (some 14) rfl rfl Try.func28 (by kernel_rfl) rfl #[.int .u8 ((x4_1) % 256)] rfl (by (try simp only [List.map_toArray, List.map_cons, List.map_nil]); first | done | rfl | (simp only [List.length_drop, List.length_take]; rfl)) ?_; (with_reducible refine (dragomanref14_Half.calls ((x4_1) % 256) t101 true _ A3.out).mono ?_); rintro e w' ⟨rfl, ⟨nd, rfl⟩⟩; refine ⟨_, rfl, ?_⟩))
            go_roundg k1
            case measure => have := HK1.out; omega
            case rel => exact ⟨(wrap64 (x4_1 + 1)), (by first | rfl | (simp; done) | (simp [*]; done)), H', ⟨by have := HK1.out; omega⟩, by repeat (first | exact Drawn0.refl _ | apply Drawn0.step)⟩
        · replace c4 := Bool.eq_false_iff.mpr c4
          subst c4
          have H1 : (dragomanref14_HalfByte.l0 k1 a0 (wrap64 (x4_1 + 1))) = some (r1, r2) := by rw [if_neg (show ¬ (false = true) by decide)] at H; exact H
          clear H
          have H := H1
          clear H1
          have H' := Aside0.mk H
          clear H
          go_wp2_with (first | ((with_reducible refine gate_callee (f := 28) rfl ?_); refine goesL_ (some 14) rfl rfl Try.func28 (by kernel_rfl) rfl #[.int .u8 ((x4_1) % 256)] rfl (by (try simp only [List.map_toArray, List.map_cons, List.map_nil]); first | done | rfl | (simp only [List.length_drop, List.length_take]; rfl)) ?_; (with_reducible refine (dragomanref14_Half.calls ((x4_1) % 256) t101 false _ A3.out).mono ?_); rintro e w' ⟨rfl, ⟨nd, rfl⟩⟩; refine ⟨_, rfl, ?_⟩))
          go_roundg k1
          case measure => have := HK1.out; omega
          case rel => exact ⟨(wrap64 (x4_1 + 1)), (by first | rfl | (simp; done) | (simp [*]; done)), H', ⟨by have := HK1.out; omega⟩, by repeat (first | exact Drawn0.refl _ | apply Drawn0.step)⟩
      · rw [if_neg c2] at H
        have c2b0 : decide (x4_1 < 256) = false := decide_eq_false c2
        clear c2
        simp only [Option.some.injEq, Prod.mk.injEq] at H
        obtain ⟨rfl, rfl⟩ := H
        go_wp2
        go_ret2
        exact ⟨by first | rfl | (simp; done) | (simp [*]; done), by repeat (first | exact Drawn0.refl _ | apply Drawn0.step)⟩

/-! ### dragomanlaw14_JisHalf: function 6 -/
def dragomanlaw14_JisHalf.f (k : Nat) (a0 : Int) (a1 : Int) : Option (Bool) := (jis_Half.f a0).bind fun bt103 => ((dragomanref14_Half.f a0).bind fun bt105 => ((jis_HalfByte.f k a1).bind fun bt107 => ((dragomanref14_HalfByte.f k a1).bind fun bt109 => (if bt103.1 = bt105.1 then (if (bt103.2 != bt105.2) = true then (some false) else (if bt107.1 = bt109.1 then (if (bt107.2 != bt109.2) = true then (some false) else ((jis_HalfByte.f k bt103.1).bind fun bt111 => (if bt103.2 = true then (if bt111.2 = true then (some (bt111.1 == a0)) else (some false)) else (some true)))) else (some false))) else (some false)))))
theorem dragomanlaw14_JisHalf.mono : ∀ a0 a1 k, LeO (dragomanlaw14_JisHalf.f k a0 a1) (dragomanlaw14_JisHalf.f (k + 1) a0 a1) := by
  intro a0 a1 k
  unfold dragomanlaw14_JisHalf.f
  repeat' first
      | (with_reducible exact dragomanref14_HalfByte.mono _ _)
      | (with_reducible exact jis_HalfByte.mono _ _)
      | (with_reducible exact LeO.refl _)
      | (with_reducible exact LeO.none _)
      | (with_reducible refine LeO.ite ?_ ?_)
      | (with_reducible refine LeO.bind ?_ (fun _ => ?_))
      | exact dragomanref14_HalfByte.mono _ _
      | exact jis_HalfByte.mono _ _
      | exact LeO.none _
      | refine LeO.ite ?_ ?_
      | refine LeO.bind ?_ (fun _ => ?_)
set_option maxHeartbeats 8000000 in
set_option maxRecDepth 100000 in
theorem dragomanlaw14_JisHalf.calls (k : Nat) (a0 : Int) (a1 : Int) (r : Bool) (w : World) (h : dragomanlaw14_JisHalf.f k a0 a1 = some r) :
    Calls Try.prog 6 #[.int .u8 a0, .int .i32 a1] w fun e w' => e = .returned (.bool r) ∧ Drawn0 w w' := by
  have H : ((jis_Half.f a0).bind fun bt103 => ((dragomanref14_Half.f a0).bind fun bt105 => ((jis_HalfByte.f k a1).bind fun bt107 => ((dragomanref14_HalfByte.f k a1).bind fun bt109 => (if bt103.1 = bt105.1 then (if (bt103.2 != bt105.2) = true then (some false) else (if bt107.1 = bt109.1 then (if (bt107.2 != bt109.2) = true then (some false) else ((jis_HalfByte.f k bt103.1).bind fun bt111 => (if bt103.2 = true then (if bt111.2 = true then (some (bt111.1 == a0)) else (some false)) else (some true)))) else (some false))) else (some false)))))) = some r := h
  clear h
  replace H := Option.bind_eq_some_iff.mp H
  obtain ⟨⟨t103, t104⟩, A30, H⟩ := H
  replace H : ((dragomanref14_Half.f a0).bind fun bt105 => ((jis_HalfByte.f k a1).bind fun bt107 => ((dragomanref14_HalfByte.f k a1).bind fun bt109 => (if t103 = bt105.1 then (if (t104 != bt105.2) = true then (some false) else (if bt107.1 = bt109.1 then (if (bt107.2 != bt109.2) = true then (some false) else ((jis_HalfByte.f k t103).bind fun bt111 => (if t104 = true then (if bt111.2 = true then (some (bt111.1 == a0)) else (some false)) else (some true)))) else (some false))) else (some false))))) = some r := H
  have A3 := Aside0.mk A30
  clear A30
  replace H := Option.bind_eq_some_iff.mp H
  obtain ⟨⟨t105, t106⟩, A40, H⟩ := H
  replace H : ((jis_HalfByte.f k a1).bind fun bt107 => ((dragomanref14_HalfByte.f k a1).bind fun bt109 => (if t103 = t105 then (if (t104 != t106) = true then (some false) else (if bt107.1 = bt109.1 then (if (bt107.2 != bt109.2) = true then (some false) else ((jis_HalfByte.f k t103).bind fun bt111 => (if t104 = true then (if bt111.2 = true then (some (bt111.1 == a0)) else (some false)) else (some true)))) else (some false))) else (some false)))) = some r := H
  have A4 := Aside0.mk A40
  clear A40
  replace H := Option.bind_eq_some_iff.mp H
  obtain ⟨⟨t107, t108⟩, A50, H⟩ := H
  replace H : ((dragomanref14_HalfByte.f k a1).bind fun bt109 => (if t103 = t105 then (if (t104 != t106) = true then (some false) else (if t107 = bt109.1 then (if (t108 != bt109.2) = true then (some false) else ((jis_HalfByte.f k t103).bind fun bt111 => (if t104 = true then (if bt111.2 = true then (some (bt111.1 == a0)) else (some false)) else (some true)))) else (some false))) else (some false))) = some r := H
  have A5 := Aside0.mk A50
  clear A50
  replace H := Option.bind_eq_some_iff.mp H
  obtain ⟨⟨t109, t110⟩, A60, H⟩ := H
  replace H : (if t103 = t105 then (if (t104 != t106) = true then (some false) else (if t107 = t109 then (if (t108 != t110) = true then (some false) else ((jis_HalfByte.f k t103).bind fun bt111 => (if t104 = true then (if bt111.2 = true then (some (bt111.1 == a0)) else (some false)) else (some true)))) else (some false))) else (some false)) = some r := H
  have A6 := Aside0.mk A60
  clear A60
  by_cases c7 : t103 = t105
  · rw [if_pos c7] at H
    have c7b0 : (t103 == t105) = true := beq_iff_eq.mpr c7
    have c7b1 : (t103 != t105) = false := bne_eq_false_iff_eq.mpr c7
    clear c7
    by_cases c8 : (t104 != t106) = true
    · rw [if_pos c8] at H
      have c8b0 : (t104 != t106) = true := c8
      (try (have c8b1 : decide (t104 = t106) = false := by simpa using c8))
      (try (have c8b2 : (t104 == t106) = false := by simpa using c8))
      (try (have c8b3 : ¬ (t104 = t106) := by simpa using c8))
      clear c8
      obtain rfl := Option.some.inj H
      go_enter Try.func6, Try.ntmps6
      go_wp2_with (first | ((with_reducible refine gate_callee (f := 27) rfl ?_); refine goesL_ (some 17) rfl rfl Try.func27 (by kernel_rfl) rfl #[.int .u8 a0] rfl (by (try simp only [List.map_toArray, List.map_cons, List.map_nil]); first | done | rfl | (simp only [List.length_drop, List.length_take]; rfl)) ?_; (with_reducible refine (jis_Half.calls a0 t103 t104 _ A3.out).mono ?_); rintro e w' ⟨rfl, ⟨nd, rfl⟩⟩; refine ⟨_, rfl, ?_⟩) | ((with_reducible refine gate_callee (f := 28) rfl ?_); refine goesL_ (some 22) rfl rfl Try.func28 (by kernel_rfl) rfl #[.int .u8 a0] rfl (by (try simp only [List.map_toArray, List.map_cons, List.map_nil]); first | done | rfl | (simp only [List.length_drop, List.length_take]; rfl)) ?_; (with_reducible refine (dragomanref14_Half.calls a0 t105 t106 _ A4.out).mono ?_); rintro e w' ⟨rfl, ⟨nd, rfl⟩⟩; refine ⟨_, rfl, ?_⟩) | ((with_reducible refine gate_callee (f := 29) rfl ?_); refine goesL_ (some 27) rfl rfl Try.func29 (by kernel_rfl) rfl #[.int .i32 a1] rfl (by (try simp only [List.map_toArray, List.map_cons, List.map_nil]); first | done | rfl | (simp only [List.length_drop, List.length_take]; rfl)) ?_; (with_reducible refine (jis_HalfByte.calls k a1 t107 t108 _ A5.out).mono ?_); rintro e w' ⟨rfl, ⟨nd, rfl⟩⟩; refine ⟨_, rfl, ?_⟩) | ((with_reducible refine gate_callee (f := 30) rfl ?_); refine goesL_ (some 32) rfl rfl Try.func30 (by kernel_rfl) rfl #[.int .i32 a1] rfl (by (try simp only [List.map_toArray, List.map_cons, List.map_nil]); first | done | rfl | (simp only [List.length_drop, List.length_take]; rfl)) ?_; (with_reducible refine (dragomanref14_HalfByte.calls k a1 t109 t110 _ A6.out).mono ?_); rintro e w' ⟨rfl, ⟨nd, rfl⟩⟩; refine ⟨_, rfl, ?_⟩))
      go_ret
      exact ⟨by first | rfl | (simp; done) | (simp [*]; done), by repeat (first | exact Drawn0.refl _ | apply Drawn0.step)⟩
    · rw [if_neg c8] at H
      have c8b0 : (t104 != t106) = false := by simpa using c8
      (try (have c8b1 : decide (t104 = t106) = true := by simpa using c8))
      (try (have c8b2 : (t104 == t106) = true := by simpa using c8))
      clear c8
      by_cases c9 : t107 = t109
      · rw [if_pos c9] at H
        have c9b0 : (t107 == t109) = true := beq_iff_eq.mpr c9
        have c9b1 : (t107 != t109) = false := bne_eq_false_iff_eq.mpr c9
        clear c9
        by_cases c10 : (t108 != t110) = true
        · rw [if_pos c10] at H
          have c10b0 : (t108 != t110) = true := c10
          (try (have c10b1 : decide (t108 = t110) = false := by simpa using c10))
          (try (have c10b2 : (t108 == t110) = false := by simpa using c10))
          (try (have c10b3 : ¬ (t108 = t110) := by simpa using c10))
          clear c10
          obtain rfl := Option.some.inj H
          go_enter Try.func6, Try.ntmps6
          go_wp2_with (first | ((with_reducible refine gate_callee (f := 27) rfl ?_); refine goesL_ (some 17) rfl rfl Try.func27 (by kernel_rfl) rfl #[.int .u8 a0] rfl (by (try simp only [List.map_toArray, List.map_cons, List.map_nil]); first | done | rfl | (simp only [List.length_drop, List.length_take]; rfl)) ?_; (with_reducible refine (jis_Half.calls a0 t103 t104 _ A3.out).mono ?_); rintro e w' ⟨rfl, ⟨nd, rfl⟩⟩; refine ⟨_, rfl, ?_⟩) | ((with_reducible refine gate_callee (f := 28) rfl ?_); refine goesL_ (some 22) rfl rfl Try.func28 (by kernel_rfl) rfl #[.int .u8 a0] rfl (by (try simp only [List.map_toArray, List.map_cons, List.map_nil]); first | done | rfl | (simp only [List.length_drop, List.length_take]; rfl)) ?_; (with_reducible refine (dragomanref14_Half.calls a0 t105 t106 _ A4.out).mono ?_); rintro e w' ⟨rfl, ⟨nd, rfl⟩⟩; refine ⟨_, rfl, ?_⟩) | ((with_reducible refine gate_callee (f := 29) rfl ?_); refine goesL_ (some 27) rfl rfl Try.func29 (by kernel_rfl) rfl #[.int .i32 a1] rfl (by (try simp only [List.map_toArray, List.map_cons, List.map_nil]); first | done | rfl | (simp only [List.length_drop, List.length_take]; rfl)) ?_; (with_reducible refine (jis_HalfByte.calls k a1 t107 t108 _ A5.out).mono ?_); rintro e w' ⟨rfl, ⟨nd, rfl⟩⟩; refine ⟨_, rfl, ?_⟩) | ((with_reducible refine gate_callee (f := 30) rfl ?_); refine goesL_ (some 32) rfl rfl Try.func30 (by kernel_rfl) rfl #[.int .i32 a1] rfl (by (try simp only [List.map_toArray, List.map_cons, List.map_nil]); first | done | rfl | (simp only [List.length_drop, List.length_take]; rfl)) ?_; (with_reducible refine (dragomanref14_HalfByte.calls k a1 t109 t110 _ A6.out).mono ?_); rintro e w' ⟨rfl, ⟨nd, rfl⟩⟩; refine ⟨_, rfl, ?_⟩))
          go_ret
          exact ⟨by first | rfl | (simp; done) | (simp [*]; done), by repeat (first | exact Drawn0.refl _ | apply Drawn0.step)⟩
        · rw [if_neg c10] at H
          have c10b0 : (t108 != t110) = false := by simpa using c10
          (try (have c10b1 : decide (t108 = t110) = true := by simpa using c10))
          (try (have c10b2 : (t108 == t110) = true := by simpa using c10))
          clear c10
          replace H := Option.bind_eq_some_iff.mp H
          obtain ⟨⟨t111, t112⟩, A110, H⟩ := H
          replace H : (if t104 = true then (if t112 = true then (some (t111 == a0)) else (some false)) else (some true)) = some r := H
          have A11 := Aside0.mk A110
          clear A110
          by_cases c12 : t104 = true
          · subst c12
            have H1 : (if t112 = true then (some (t111 == a0)) else (some false)) = some r := by rw [if_pos rfl] at H; exact H
            clear H
            have H := H1
            clear H1
            by_cases c13 : t112 = true
            · subst c13
              have H1 : (some (t111 == a0)) = some r := by rw [if_pos rfl] at H; exact H
              clear H
              have H := H1
              clear H1
              obtain rfl := Option.some.inj H
              go_enter Try.func6, Try.ntmps6
              go_wp2_with (first | ((with_reducible refine gate_callee (f := 27) rfl ?_); refine goesL_ (some 17) rfl rfl Try.func27 (by kernel_rfl) rfl #[.int .u8 a0] rfl (by (try simp only [List.map_toArray, List.map_cons, List.map_nil]); first | done | rfl | (simp only [List.length_drop, List.length_take]; rfl)) ?_; (with_reducible refine (jis_Half.calls a0 t103 true _ A3.out).mono ?_); rintro e w' ⟨rfl, ⟨nd, rfl⟩⟩; refine ⟨_, rfl, ?_⟩) | ((with_reducible refine gate_callee (f := 28) rfl ?_); refine goesL_ (some 22) rfl rfl Try.func28 (by kernel_rfl) rfl #[.int .u8 a0] rfl (by (try simp only [List.map_toArray, List.map_cons, List.map_nil]); first | done | rfl | (simp only [List.length_drop, List.length_take]; rfl)) ?_; (with_reducible refine (dragomanref14_Half.calls a0 t105 t106 _ A4.out).mono ?_); rintro e w' ⟨rfl, ⟨nd, rfl⟩⟩; refine ⟨_, rfl, ?_⟩) | ((with_reducible refine gate_callee (f := 29) rfl ?_); refine goesL_ (some 27) rfl rfl Try.func29 (by kernel_rfl) rfl #[.int .i32 a1] rfl (by (try simp only [List.map_toArray, List.map_cons, List.map_nil]); first | done | rfl | (simp only [List.length_drop, List.length_take]; rfl)) ?_; (with_reducible refine (jis_HalfByte.calls k a1 t107 t108 _ A5.out).mono ?_); rintro e w' ⟨rfl, ⟨nd, rfl⟩⟩; refine ⟨_, rfl, ?_⟩) | ((with_reducible refine gate_callee (f := 30) rfl ?_); refine goesL_ (some 32) rfl rfl Try.func30 (by kernel_rfl) rfl #[.int .i32 a1] rfl (by (try simp only [List.map_toArray, List.map_cons, List.map_nil]); first | done | rfl | (simp only [List.length_drop, List.length_take]; rfl)) ?_; (with_reducible refine (dragomanref14_HalfByte.calls k a1 t109 t110 _ A6.out).mono ?_); rintro e w' ⟨rfl, ⟨nd, rfl⟩⟩; refine ⟨_, rfl, ?_⟩) | ((with_reducible refine gate_callee (f := 29) rfl ?_); refine goesL_ (some 55) rfl rfl Try.func29 (by kernel_rfl) rfl #[.int .i32 t103] rfl (by (try simp only [List.map_toArray, List.map_cons, List.map_nil]); first | done | rfl | (simp only [List.length_drop, List.length_take]; rfl)) ?_; (with_reducible refine (jis_HalfByte.calls k t103 t111 true _ A11.out).mono ?_); rintro e w' ⟨rfl, ⟨nd, rfl⟩⟩; refine ⟨_, rfl, ?_⟩))
              go_ret
              exact ⟨by first | rfl | (simp; done) | (simp [*]; done), by repeat (first | exact Drawn0.refl _ | apply Drawn0.step)⟩
            · replace c13 := Bool.eq_false_iff.mpr c13
              subst c13
              have H1 : (some false) = some r := by rw [if_neg (show ¬ (false = true) by decide)] at H; exact H
              clear H
              have H := H1
              clear H1
              obtain rfl := Option.some.inj H
              go_enter Try.func6, Try.ntmps6
              go_wp2_with (first | ((with_reducible refine gate_callee (f := 27) rfl ?_); refine goesL_ (some 17) rfl rfl Try.func27 (by kernel_rfl) rfl #[.int .u8 a0] rfl (by (try simp only [List.map_toArray, List.map_cons, List.map_nil]); first | done | rfl | (simp only [List.length_drop, List.length_take]; rfl)) ?_; (with_reducible refine (jis_Half.calls a0 t103 true _ A3.out).mono ?_); rintro e w' ⟨rfl, ⟨nd, rfl⟩⟩; refine ⟨_, rfl, ?_⟩) | ((with_reducible refine gate_callee (f := 28) rfl ?_); refine goesL_ (some 22) rfl rfl Try.func28 (by kernel_rfl) rfl #[.int .u8 a0] rfl (by (try simp only [List.map_toArray, List.map_cons, List.map_nil]); first | done | rfl | (simp only [List.length_drop, List.length_take]; rfl)) ?_; (with_reducible refine (dragomanref14_Half.calls a0 t105 t106 _ A4.out).mono ?_); rintro e w' ⟨rfl, ⟨nd, rfl⟩⟩; refine ⟨_, rfl, ?_⟩) | ((with_reducible refine gate_callee (f := 29) rfl ?_); refine goesL_ (some 27) rfl rfl Try.func29 (by kernel_rfl) rfl #[.int .i32 a1] rfl (by (try simp only [List.map_toArray, List.map_cons, List.map_nil]); first | done | rfl | (simp only [List.length_drop, List.length_take]; rfl)) ?_; (with_reducible refine (jis_HalfByte.calls k a1 t107 t108 _ A5.out).mono ?_); rintro e w' ⟨rfl, ⟨nd, rfl⟩⟩; refine ⟨_, rfl, ?_⟩) | ((with_reducible refine gate_callee (f := 30) rfl ?_); refine goesL_ (some 32) rfl rfl Try.func30 (by kernel_rfl) rfl #[.int .i32 a1] rfl (by (try simp only [List.map_toArray, List.map_cons, List.map_nil]); first | done | rfl | (simp only [List.length_drop, List.length_take]; rfl)) ?_; (with_reducible refine (dragomanref14_HalfByte.calls k a1 t109 t110 _ A6.out).mono ?_); rintro e w' ⟨rfl, ⟨nd, rfl⟩⟩; refine ⟨_, rfl, ?_⟩) | ((with_reducible refine gate_callee (f := 29) rfl ?_); refine goesL_ (some 55) rfl rfl Try.func29 (by kernel_rfl) rfl #[.int .i32 t103] rfl (by (try simp only [List.map_toArray, List.map_cons, List.map_nil]); first | done | rfl | (simp only [List.length_drop, List.length_take]; rfl)) ?_; (with_reducible refine (jis_HalfByte.calls k t103 t111 false _ A11.out).mono ?_); rintro e w' ⟨rfl, ⟨nd, rfl⟩⟩; refine ⟨_, rfl, ?_⟩))
              go_ret
              exact ⟨by first | rfl | (simp; done) | (simp [*]; done), by repeat (first | exact Drawn0.refl _ | apply Drawn0.step)⟩
          · replace c12 := Bool.eq_false_iff.mpr c12
            subst c12
            have H1 : (some true) = some r := by rw [if_neg (show ¬ (false = true) by decide)] at H; exact H
            clear H
            have H := H1
            clear H1
            obtain rfl := Option.some.inj H
            go_enter Try.func6, Try.ntmps6
            go_wp2_with (first | ((with_reducible refine gate_callee (f := 27) rfl ?_); refine goesL_ (some 17) rfl rfl Try.func27 (by kernel_rfl) rfl #[.int .u8 a0] rfl (by (try simp only [List.map_toArray, List.map_cons, List.map_nil]); first | done | rfl | (simp only [List.length_drop, List.length_take]; rfl)) ?_; (with_reducible refine (jis_Half.calls a0 t103 false _ A3.out).mono ?_); rintro e w' ⟨rfl, ⟨nd, rfl⟩⟩; refine ⟨_, rfl, ?_⟩) | ((with_reducible refine gate_callee (f := 28) rfl ?_); refine goesL_ (some 22) rfl rfl Try.func28 (by kernel_rfl) rfl #[.int .u8 a0] rfl (by (try simp only [List.map_toArray, List.map_cons, List.map_nil]); first | done | rfl | (simp only [List.length_drop, List.length_take]; rfl)) ?_; (with_reducible refine (dragomanref14_Half.calls a0 t105 t106 _ A4.out).mono ?_); rintro e w' ⟨rfl, ⟨nd, rfl⟩⟩; refine ⟨_, rfl, ?_⟩) | ((with_reducible refine gate_callee (f := 29) rfl ?_); refine goesL_ (some 27) rfl rfl Try.func29 (by kernel_rfl) rfl #[.int .i32 a1] rfl (by (try simp only [List.map_toArray, List.map_cons, List.map_nil]); first | done | rfl | (simp only [List.length_drop, List.length_take]; rfl)) ?_; (with_reducible refine (jis_HalfByte.calls k a1 t107 t108 _ A5.out).mono ?_); rintro e w' ⟨rfl, ⟨nd, rfl⟩⟩; refine ⟨_, rfl, ?_⟩) | ((with_reducible refine gate_callee (f := 30) rfl ?_); refine goesL_ (some 32) rfl rfl Try.func30 (by kernel_rfl) rfl #[.int .i32 a1] rfl (by (try simp only [List.map_toArray, List.map_cons, List.map_nil]); first | done | rfl | (simp only [List.length_drop, List.length_take]; rfl)) ?_; (with_reducible refine (dragomanref14_HalfByte.calls k a1 t109 t110 _ A6.out).mono ?_); rintro e w' ⟨rfl, ⟨nd, rfl⟩⟩; refine ⟨_, rfl, ?_⟩) | ((with_reducible refine gate_callee (f := 29) rfl ?_); refine goesL_ (some 55) rfl rfl Try.func29 (by kernel_rfl) rfl #[.int .i32 t103] rfl (by (try simp only [List.map_toArray, List.map_cons, List.map_nil]); first | done | rfl | (simp only [List.length_drop, List.length_take]; rfl)) ?_; (with_reducible refine (jis_HalfByte.calls k t103 t111 t112 _ A11.out).mono ?_); rintro e w' ⟨rfl, ⟨nd, rfl⟩⟩; refine ⟨_, rfl, ?_⟩))
            go_ret
            exact ⟨by first | rfl | (simp; done) | (simp [*]; done), by repeat (first | exact Drawn0.refl _ | apply Drawn0.step)⟩
      · rw [if_neg c9] at H
        have c9b0 : (t107 == t109) = false := beq_eq_false_iff_ne.mpr c9
        have c9b1 : (t107 != t109) = true := bne_iff_ne.mpr c9
        obtain rfl := Option.some.inj H
        go_enter Try.func6, Try.ntmps6
        go_wp2_with (first | ((with_reducible refine gate_callee (f := 27) rfl ?_); refine goesL_ (some 17) rfl rfl Try.func27 (by kernel_rfl) rfl #[.int .u8 a0] rfl (by (try simp only [List.map_toArray, List.map_cons, List.map_nil]); first | done | rfl | (simp only [List.length_drop, List.length_take]; rfl)) ?_; (with_reducible refine (jis_Half.calls a0 t103 t104 _ A3.out).mono ?_); rintro e w' ⟨rfl, ⟨nd, rfl⟩⟩; refine ⟨_, rfl, ?_⟩) | ((with_reducible refine gate_callee (f := 28) rfl ?_); refine goesL_ (some 22) rfl rfl Try.func28 (by kernel_rfl) rfl #[.int .u8 a0] rfl (by (try simp only [List.map_toArray, List.map_cons, List.map_nil]); first | done | rfl | (simp only [List.length_drop, List.length_take]; rfl)) ?_; (with_reducible refine (dragomanref14_Half.calls a0 t105 t106 _ A4.out).mono ?_); rintro e w' ⟨rfl, ⟨nd, rfl⟩⟩; refine ⟨_, rfl, ?_⟩) | ((with_reducible refine gate_callee (f := 29) rfl ?_); refine goesL_ (some 27) rfl rfl Try.func29 (by kernel_rfl) rfl #[.int .i32 a1] rfl (by (try simp only [List.map_toArray, List.map_cons, List.map_nil]); first | done | rfl | (simp only [List.length_drop, List.length_take]; rfl)) ?_; (with_reducible refine (jis_HalfByte.calls k a1 t107 t108 _ A5.out).mono ?_); rintro e w' ⟨rfl, ⟨nd, rfl⟩⟩; refine ⟨_, rfl, ?_⟩) | ((with_reducible refine gate_callee (f := 30) rfl ?_); refine goesL_ (some 32) rfl rfl Try.func30 (by kernel_rfl) rfl #[.int .i32 a1] rfl (by (try simp only [List.map_toArray, List.map_cons, List.map_nil]); first | done | rfl | (simp only [List.length_drop, List.length_take]; rfl)) ?_; (with_reducible refine (dragomanref14_HalfByte.calls k a1 t109 t110 _ A6.out).mono ?_); rintro e w' ⟨rfl, ⟨nd, rfl⟩⟩; refine ⟨_, rfl, ?_⟩))
        go_ret
        exact ⟨by first | rfl | (simp; done) | (simp [*]; done), by repeat (first | exact Drawn0.refl _ | apply Drawn0.step)⟩
  · rw [if_neg c7] at H
    have c7b0 : (t103 == t105) = false := beq_eq_false_iff_ne.mpr c7
    have c7b1 : (t103 != t105) = true := bne_iff_ne.mpr c7
    obtain rfl := Option.some.inj H
    go_enter Try.func6, Try.ntmps6
    go_wp2_with (first | ((with_reducible refine gate_callee (f := 27) rfl ?_); refine goesL_ (some 17) rfl rfl Try.func27 (by kernel_rfl) rfl #[.int .u8 a0] rfl (by (try simp only [List.map_toArray, List.map_cons, List.map_nil]); first | done | rfl | (simp only [List.length_drop, List.length_take]; rfl)) ?_; (with_reducible refine (jis_Half.calls a0 t103 t104 _ A3.out).mono ?_); rintro e w' ⟨rfl, ⟨nd, rfl⟩⟩; refine ⟨_, rfl, ?_⟩) | ((with_reducible refine gate_callee (f := 28) rfl ?_); refine goesL_ (some 22) rfl rfl Try.func28 (by kernel_rfl) rfl #[.int .u8 a0] rfl (by (try simp only [List.map_toArray, List.map_cons, List.map_nil]); first | done | rfl | (simp only [List.length_drop, List.length_take]; rfl)) ?_; (with_reducible refine (dragomanref14_Half.calls a0 t105 t106 _ A4.out).mono ?_); rintro e w' ⟨rfl, ⟨nd, rfl⟩⟩; refine ⟨_, rfl, ?_⟩) | ((with_reducible refine gate_callee (f := 29) rfl ?_); refine goesL_ (some 27) rfl rfl Try.func29 (by kernel_rfl) rfl #[.int .i32 a1] rfl (by (try simp only [List.map_toArray, List.map_cons, List.map_nil]); first | done | rfl | (simp only [List.length_drop, List.length_take]; rfl)) ?_; (with_reducible refine (jis_HalfByte.calls k a1 t107 t108 _ A5.out).mono ?_); rintro e w' ⟨rfl, ⟨nd, rfl⟩⟩; refine ⟨_, rfl, ?_⟩) | ((with_reducible refine gate_callee (f := 30) rfl ?_); refine goesL_ (some 32) rfl rfl Try.func30 (by kernel_rfl) rfl #[.int .i32 a1] rfl (by (try simp only [List.map_toArray, List.map_cons, List.map_nil]); first | done | rfl | (simp only [List.length_drop, List.length_take]; rfl)) ?_; (with_reducible refine (dragomanref14_HalfByte.calls k a1 t109 t110 _ A6.out).mono ?_); rintro e w' ⟨rfl, ⟨nd, rfl⟩⟩; refine ⟨_, rfl, ?_⟩))
    go_ret
    exact ⟨by first | rfl | (simp; done) | (simp [*]; done), by repeat (first | exact Drawn0.refl _ | apply Drawn0.step)⟩

/-- THE ONE PURE STATEMENT of dragomanlaw14_JisHalf: yours. -/
def dragomanlaw14_JisHalf.Pure : Prop := ∀ (a0 : Int) (a1 : Int), (Lit.int .u8 a0).wf = true → (Lit.int .i32 a1).wf = true → ∃ k, dragomanlaw14_JisHalf.f k a0 a1 = some true
theorem dragomanlaw14_JisHalf.walk (P : dragomanlaw14_JisHalf.Pure) (a0 : Int) (a1 : Int) (w : World) (w0 : (Lit.int .u8 a0).wf = true) (w1 : (Lit.int .i32 a1).wf = true) :
    Calls Try.prog 6 #[.int .u8 a0, .int .i32 a1] w fun e w' => e = .returned (.bool true) ∧ Below w.heap.size w w' := by
  obtain ⟨k, h⟩ := P a0 a1 w0 w1
  refine (dragomanlaw14_JisHalf.calls k a0 a1 true w h).mono ?_
  rintro e w' ⟨rfl, hd⟩
  exact ⟨rfl, hd.below⟩

end Go.Proofs.Ytadhfojgifhjcaa.PJisHalf
