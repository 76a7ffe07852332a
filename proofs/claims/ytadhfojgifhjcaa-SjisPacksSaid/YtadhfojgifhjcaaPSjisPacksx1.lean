-- PRINTED BY print.sh 35421559b90ae4d0a3588c463048766b98c2df88dd9212a6774a882060cdf62d: not written by this session
import Derived.Test.YtadhfojgifhjcaaPSjisPacksx0
namespace Go.Proofs.Ytadhfojgifhjcaa.PSjisPacks
open Go.RowKit Go.Proofs.YtadhfojgifhjcaaW.PrintWords Go.Proofs.YtadhfojgifhjcaaW.PrintLast Go.Proofs.YtadhfojgifhjcaaW.PrintMore
attribute [local go_sem] max2_int min2_int max_two min_two max_three min_three max_four min_four   -- for this text's walks alone
set_option linter.unusedVariables false
set_option linter.unusedSimpArgs false

/-! ### sjis_Pack: function 32 -/
mutual
def sjis_Pack.j0 : Nat → Int → Int → Bool → Option (Int × Int × Bool)
  | 0, _, _, _ => none
  | k + 1, x0, x1, x22 => if x22 = true then (some (0, 0, false)) else (if (wrap64 (129 + (wrap64 (Int.tdiv (wrap64 (x0 - 1)) 2)))) > 159 then (sjis_Pack.j1 k x0 x1 (wrap64 ((wrap64 (129 + (wrap64 (Int.tdiv (wrap64 (x0 - 1)) 2)))) + 64))) else (sjis_Pack.j1 k x0 x1 (wrap64 (129 + (wrap64 (Int.tdiv (wrap64 (x0 - 1)) 2))))))
def sjis_Pack.j1 : Nat → Int → Int → Int → Option (Int × Int × Bool)
  | 0, _, _, _ => none
  | k + 1, x0, x1, x7 => if (Int.tmod x0 2) = 0 then (some ((x7) % 256, (wrap64 ((wrap64 (159 + x1)) - 1)) % 256, true)) else (if (wrap64 ((wrap64 (64 + x1)) - 1)) ≥ 127 then (some ((x7) % 256, (wrap64 ((wrap64 ((wrap64 (64 + x1)) - 1)) + 1)) % 256, true)) else (some ((x7) % 256, (wrap64 ((wrap64 (64 + x1)) - 1)) % 256, true)))
end
def sjis_Pack.f (k : Nat) (a0 : Int) (a1 : Int) : Option (Int × Int × Bool) := if a0 < 1 then (sjis_Pack.j0 k a0 a1 true) else (if a0 > 94 then (sjis_Pack.j0 k a0 a1 true) else (if a1 < 1 then (sjis_Pack.j0 k a0 a1 true) else (sjis_Pack.j0 k a0 a1 (decide (a1 > 94)))))
theorem sjis_Pack.mono_l : ∀ k, (∀ y0 y1 y2, LeO (sjis_Pack.j0 k y0 y1 y2) (sjis_Pack.j0 (k + 1) y0 y1 y2)) ∧ (∀ y0 y1 y2, LeO (sjis_Pack.j1 k y0 y1 y2) (sjis_Pack.j1 (k + 1) y0 y1 y2))
  | 0 => ⟨fun _ _ _ r h => by simp [sjis_Pack.j0] at h, fun _ _ _ r h => by simp [sjis_Pack.j1] at h⟩
  | k + 1 => by
    obtain ⟨ih0, ih1⟩ := sjis_Pack.mono_l k
    refine ⟨?_, ?_⟩
    · intro y0 y1 y2
      unfold sjis_Pack.j0
      repeat' first
      | (with_reducible exact ih0 _ _ _)
      | (with_reducible exact ih1 _ _ _)
      | (with_reducible exact LeO.refl _)
      | (with_reducible exact LeO.none _)
      | (with_reducible refine LeO.ite ?_ ?_)
      | (with_reducible refine LeO.bind ?_ (fun _ => ?_))
      | exact ih0 _ _ _
      | exact ih1 _ _ _
      | exact LeO.none _
      | refine LeO.ite ?_ ?_
      | refine LeO.bind ?_ (fun _ => ?_)
    · intro y0 y1 y2
      unfold sjis_Pack.j1
      repeat' first
      | (with_reducible exact ih0 _ _ _)
      | (with_reducible exact ih1 _ _ _)
      | (with_reducible exact LeO.refl _)
      | (with_reducible exact LeO.none _)
      | (with_reducible refine LeO.ite ?_ ?_)
      | (with_reducible refine LeO.bind ?_ (fun _ => ?_))
      | exact ih0 _ _ _
      | exact ih1 _ _ _
      | exact LeO.none _
      | refine LeO.ite ?_ ?_
      | refine LeO.bind ?_ (fun _ => ?_)
theorem sjis_Pack.mono : ∀ a0 a1 k, LeO (sjis_Pack.f k a0 a1) (sjis_Pack.f (k + 1) a0 a1) := by
  intro a0 a1 k
  obtain ⟨ih0, ih1⟩ := sjis_Pack.mono_l k
  unfold sjis_Pack.f
  repeat' first
      | (with_reducible exact ih0 _ _ _)
      | (with_reducible exact ih1 _ _ _)
      | (with_reducible exact LeO.refl _)
      | (with_reducible exact LeO.none _)
      | (with_reducible refine LeO.ite ?_ ?_)
      | (with_reducible refine LeO.bind ?_ (fun _ => ?_))
      | exact ih0 _ _ _
      | exact ih1 _ _ _
      | exact LeO.none _
      | refine LeO.ite ?_ ?_
      | refine LeO.bind ?_ (fun _ => ?_)
set_option maxHeartbeats 8000000 in
set_option maxRecDepth 100000 in
theorem sjis_Pack.calls (k : Nat) (a0 : Int) (a1 : Int) (r1 : Int) (r2 : Int) (r3 : Bool) (w : World) (h : sjis_Pack.f k a0 a1 = some (r1, r2, r3)) :
    Calls Try.prog 32 #[.int .i64 a0, .int .i64 a1] w fun e w' => e = .returned (.tuple #[.int .u8 r1, .int .u8 r2, .bool r3]) ∧ Drawn0 w w' := by
  have H : (if a0 < 1 then (sjis_Pack.j0 k a0 a1 true) else (if a0 > 94 then (sjis_Pack.j0 k a0 a1 true) else (if a1 < 1 then (sjis_Pack.j0 k a0 a1 true) else (sjis_Pack.j0 k a0 a1 (decide (a1 > 94)))))) = some (r1, r2, r3) := h
  clear h
  have HC3 := Aside0.mk H
  clear H
  go_enter Try.func32, Try.ntmps32
  go_upto_region 1 with (fail)
  go_cut [22] (fun v22 wc => ∃ (kq : Nat) (x22_2 : Bool), v22 = .bool x22_2 ∧ Aside0 (sjis_Pack.j0 kq a0 a1 x22_2 = some (r1, r2, r3)) ∧ Aside0 (kq ≤ k) ∧ Drawn0 w wc)
  case first =>
    have H := HC3.out
    clear HC3
    by_cases c4 : a0 < 1
    · rw [if_pos c4] at H
      have c4b0 : decide (a0 < 1) = true := decide_eq_true c4
      clear c4
      (first | rw [c4b0] | (simp only [i64_w, i32_w]; rw [c4b0]) | skip)
      have H' := Aside0.mk H
      clear H
      go_wp2
      go_meet
      case rel => exact ⟨_, (true), (by first | rfl | (simp; done) | (simp [*]; done)), H', ⟨by first | omega | exact Nat.le_refl _⟩, by repeat (first | exact Drawn0.refl _ | apply Drawn0.step)⟩
    · rw [if_neg c4] at H
      have c4b0 : decide (a0 < 1) = false := decide_eq_false c4
      clear c4
      (first | rw [c4b0] | (simp only [i64_w, i32_w]; rw [c4b0]) | skip)
      by_cases c5 : a0 > 94
      · rw [if_pos c5] at H
        have c5b0 : decide (94 < a0) = true := decide_eq_true c5
        clear c5
        have H' := Aside0.mk H
        clear H
        go_wp2
        go_meet
        case rel => exact ⟨_, (true), (by first | rfl | (simp; done) | (simp [*]; done)), H', ⟨by first | omega | exact Nat.le_refl _⟩, by repeat (first | exact Drawn0.refl _ | apply Drawn0.step)⟩
      · rw [if_neg c5] at H
        have c5b0 : decide (94 < a0) = false := decide_eq_false c5
        clear c5
        by_cases c6 : a1 < 1
        · rw [if_pos c6] at H
          have c6b0 : decide (a1 < 1) = true := decide_eq_true c6
          clear c6
          have H' := Aside0.mk H
          clear H
          go_wp2
          go_meet
          case rel => exact ⟨_, (true), (by first | rfl | (simp; done) | (simp [*]; done)), H', ⟨by first | omega | exact Nat.le_refl _⟩, by repeat (first | exact Drawn0.refl _ | apply Drawn0.step)⟩
        · rw [if_neg c6] at H
          have c6b0 : decide (a1 < 1) = false := decide_eq_false c6
          clear c6
          have H' := Aside0.mk H
          clear H
          go_wp2
          go_meet
          case rel => exact ⟨_, (decide (a1 > 94)), (by first | rfl | (simp; done) | (simp [*]; done)), H', ⟨by first | omega | exact Nat.le_refl _⟩, by repeat (first | exact Drawn0.refl _ | apply Drawn0.step)⟩
  case rest =>
    clear HC3
    try clear p2
    try clear c3
    try clear c4
    try clear c4b0
    try clear c5
    try clear c5b0
    try clear c6
    try clear c6b0
    obtain ⟨kq, x22_2, rfl, HA, HJ2, ⟨mc2, rfl⟩⟩ := hcut
    cases kq with
    | zero => exact absurd HA.out (by simp [sjis_Pack.j0])
    | succ kj2 =>
      have H := HA.out
      clear HA
      simp only [sjis_Pack.j0] at H
      by_cases c7 : x22_2 = true
      · subst c7
        have H1 : (some (0, 0, false)) = some (r1, r2, r3) := by rw [if_pos rfl] at H; exact H
        clear H
        have H := H1
        clear H1
        simp only [Option.some.injEq, Prod.mk.injEq] at H
        obtain ⟨rfl, rfl, rfl⟩ := H
        go_wp2
        go_ret3
        exact ⟨by first | rfl | (simp; done) | (simp [*]; done), by repeat (first | exact Drawn0.refl _ | apply Drawn0.step)⟩
      · replace c7 := Bool.eq_false_iff.mpr c7
        subst c7
        have H1 : (if (wrap64 (129 + (wrap64 (Int.tdiv (wrap64 (a0 - 1)) 2)))) > 159 then (sjis_Pack.j1 kj2 a0 a1 (wrap64 ((wrap64 (129 + (wrap64 (Int.tdiv (wrap64 (a0 - 1)) 2)))) + 64))) else (sjis_Pack.j1 kj2 a0 a1 (wrap64 (129 + (wrap64 (Int.tdiv (wrap64 (a0 - 1)) 2)))))) = some (r1, r2, r3) := by rw [if_neg (show ¬ (false = true) by decide)] at H; exact H
        clear H
        have H := H1
        clear H1
        have HC8 := Aside0.mk H
        clear H
        go_upto_if 28 with (fail)
        go_cut [7] (fun v7 wc => ∃ (kq : Nat) (x7_7 : Int), v7 = .int .i64 x7_7 ∧ Aside0 (sjis_Pack.j1 kq a0 a1 x7_7 = some (r1, r2, r3)) ∧ Aside0 (kq ≤ kj2) ∧ Drawn0 w wc)
        case first =>
          have H := HC8.out
          clear HC8
          by_cases c9 : (wrap64 (129 + (wrap64 (Int.tdiv (wrap64 (a0 - 1)) 2)))) > 159
          · rw [if_pos c9] at H
            have c9b0 : decide (159 < (wrap64 (129 + (wrap64 (Int.tdiv (wrap64 (a0 - 1)) 2))))) = true := decide_eq_true c9
            clear c9
            (first | rw [c9b0] | (simp only [i64_w, i32_w]; rw [c9b0]) | skip)
            have H' := Aside0.mk H
            clear H
            go_wp2
            go_meet
            case rel => exact ⟨_, (wrap64 ((wrap64 (129 + (wrap64 (Int.tdiv (wrap64 (a0 - 1)) 2)))) + 64)), (by first | rfl | (simp; done) | (simp [*]; done)), H', ⟨by have := HJ2.out; first | omega | exact Nat.le_refl _⟩, by repeat (first | exact Drawn0.refl _ | apply Drawn0.step)⟩
          · rw [if_neg c9] at H
            have c9b0 : decide (159 < (wrap64 (129 + (wrap64 (Int.tdiv (wrap64 (a0 - 1)) 2))))) = false := decide_eq_false c9
            clear c9
            (first | rw [c9b0] | (simp only [i64_w, i32_w]; rw [c9b0]) | skip)
            have H' := Aside0.mk H
            clear H
            go_wp2
            go_meet
            case rel => exact ⟨_, (wrap64 (129 + (wrap64 (Int.tdiv (wrap64 (a0 - 1)) 2)))), (by first | rfl | (simp; done) | (simp [*]; done)), H', ⟨by have := HJ2.out; first | omega | exact Nat.le_refl _⟩, by repeat (first | exact Drawn0.refl _ | apply Drawn0.step)⟩
        case rest =>
          clear HC8
          try clear c2
          try clear p2
          try clear c3
          try clear c4
          try clear c4b0
          try clear c5
          try clear c5b0
          try clear c6
          try clear c6b0
          try clear p6
          try clear c7
          try clear c9
          try clear c9b0
          try clear p2
          obtain ⟨kq, x7_7, rfl, HA, HJ7, ⟨mc7, rfl⟩⟩ := hcut
          cases kq with
          | zero => exact absurd HA.out (by simp [sjis_Pack.j1])
          | succ kj7 =>
            have H := HA.out
            clear HA
            simp only [sjis_Pack.j1] at H
            by_cases c10 : (Int.tmod a0 2) = 0
            · rw [if_pos c10] at H
              have c10b0 : ((Int.tmod a0 2) == 0) = true := beq_iff_eq.mpr c10
              have c10b1 : ((Int.tmod a0 2) != 0) = false := bne_eq_false_iff_eq.mpr c10
              clear c10
              simp only [Option.some.injEq, Prod.mk.injEq] at H
              obtain ⟨rfl, rfl, rfl⟩ := H
              go_wp2
              go_ret3
              exact ⟨by first | rfl | (simp; done) | (simp [*]; done), by repeat (first | exact Drawn0.refl _ | apply Drawn0.step)⟩
            · rw [if_neg c10] at H
              have c10b0 : ((Int.tmod a0 2) == 0) = false := beq_eq_false_iff_ne.mpr c10
              have c10b1 : ((Int.tmod a0 2) != 0) = true := bne_iff_ne.mpr c10
              by_cases c11 : (wrap64 ((wrap64 (64 + a1)) - 1)) ≥ 127
              · rw [if_pos c11] at H
                have c11b0 : decide (127 ≤ (wrap64 ((wrap64 (64 + a1)) - 1))) = true := decide_eq_true c11
                clear c11
                simp only [Option.some.injEq, Prod.mk.injEq] at H
                obtain ⟨rfl, rfl, rfl⟩ := H
                go_wp2
                go_ret3
                exact ⟨by first | rfl | (simp; done) | (simp [*]; done), by repeat (first | exact Drawn0.refl _ | apply Drawn0.step)⟩
              · rw [if_neg c11] at H
                have c11b0 : decide (127 ≤ (wrap64 ((wrap64 (64 + a1)) - 1))) = false := decide_eq_false c11
                clear c11
                simp only [Option.some.injEq, Prod.mk.injEq] at H
                obtain ⟨rfl, rfl, rfl⟩ := H
                go_wp2
                go_ret3
                exact ⟨by first | rfl | (simp; done) | (simp [*]; done), by repeat (first | exact Drawn0.refl _ | apply Drawn0.step)⟩

/-! ### dragomanref18_Pack: function 33 -/
mutual
def dragomanref18_Pack.j0 : Nat → Int → Int → Bool → Option (Int × Int × Bool)
  | 0, _, _, _ => none
  | k + 1, x0, x1, x23 => if x23 = true then (some (0, 0, false)) else (if (wrap64 (129 + (wrap64 (Int.tdiv (wrap64 (x0 - 1)) 2)))) > 159 then (dragomanref18_Pack.j1 k x0 x1 (wrap64 (193 + (wrap64 (Int.tdiv (wrap64 (x0 - 1)) 2))))) else (dragomanref18_Pack.j1 k x0 x1 (wrap64 (129 + (wrap64 (Int.tdiv (wrap64 (x0 - 1)) 2))))))
def dragomanref18_Pack.j1 : Nat → Int → Int → Int → Option (Int × Int × Bool)
  | 0, _, _, _ => none
  | k + 1, x0, x1, x8 => if (Int.tmod x0 2) = 1 then (if x1 > 63 then (some ((x8) % 256, (wrap64 (64 + x1)) % 256, true)) else (some ((x8) % 256, (wrap64 (63 + x1)) % 256, true))) else (some ((x8) % 256, (wrap64 (158 + x1)) % 256, true))
end
def dragomanref18_Pack.f (k : Nat) (a0 : Int) (a1 : Int) : Option (Int × Int × Bool) := if a0 < 1 then (dragomanref18_Pack.j0 k a0 a1 true) else (if a0 > 94 then (dragomanref18_Pack.j0 k a0 a1 true) else (if a1 < 1 then (dragomanref18_Pack.j0 k a0 a1 true) else (dragomanref18_Pack.j0 k a0 a1 (decide (a1 > 94)))))
theorem dragomanref18_Pack.mono_l : ∀ k, (∀ y0 y1 y2, LeO (dragomanref18_Pack.j0 k y0 y1 y2) (dragomanref18_Pack.j0 (k + 1) y0 y1 y2)) ∧ (∀ y0 y1 y2, LeO (dragomanref18_Pack.j1 k y0 y1 y2) (dragomanref18_Pack.j1 (k + 1) y0 y1 y2))
  | 0 => ⟨fun _ _ _ r h => by simp [dragomanref18_Pack.j0] at h, fun _ _ _ r h => by simp [dragomanref18_Pack.j1] at h⟩
  | k + 1 => by
    obtain ⟨ih0, ih1⟩ := dragomanref18_Pack.mono_l k
    refine ⟨?_, ?_⟩
    · intro y0 y1 y2
      unfold dragomanref18_Pack.j0
      repeat' first
      | (with_reducible exact ih0 _ _ _)
      | (with_reducible exact ih1 _ _ _)
      | (with_reducible exact LeO.refl _)
      | (with_reducible exact LeO.none _)
      | (with_reducible refine LeO.ite ?_ ?_)
      | (with_reducible refine LeO.bind ?_ (fun _ => ?_))
      | exact ih0 _ _ _
      | exact ih1 _ _ _
      | exact LeO.none _
      | refine LeO.ite ?_ ?_
      | refine LeO.bind ?_ (fun _ => ?_)
    · intro y0 y1 y2
      unfold dragomanref18_Pack.j1
      repeat' first
      | (with_reducible exact ih0 _ _ _)
      | (with_reducible exact ih1 _ _ _)
      | (with_reducible exact LeO.refl _)
      | (with_reducible exact LeO.none _)
      | (with_reducible refine LeO.ite ?_ ?_)
      | (with_reducible refine LeO.bind ?_ (fun _ => ?_))
      | exact ih0 _ _ _
      | exact ih1 _ _ _
      | exact LeO.none _
      | refine LeO.ite ?_ ?_
      | refine LeO.bind ?_ (fun _ => ?_)
theorem dragomanref18_Pack.mono : ∀ a0 a1 k, LeO (dragomanref18_Pack.f k a0 a1) (dragomanref18_Pack.f (k + 1) a0 a1) := by
  intro a0 a1 k
  obtain ⟨ih0, ih1⟩ := dragomanref18_Pack.mono_l k
  unfold dragomanref18_Pack.f
  repeat' first
      | (with_reducible exact ih0 _ _ _)
      | (with_reducible exact ih1 _ _ _)
      | (with_reducible exact LeO.refl _)
      | (with_reducible exact LeO.none _)
      | (with_reducible refine LeO.ite ?_ ?_)
      | (with_reducible refine LeO.bind ?_ (fun _ => ?_))
      | exact ih0 _ _ _
      | exact ih1 _ _ _
      | exact LeO.none _
      | refine LeO.ite ?_ ?_
      | refine LeO.bind ?_ (fun _ => ?_)
set_option maxHeartbeats 8000000 in
set_option maxRecDepth 100000 in
theorem dragomanref18_Pack.calls (k : Nat) (a0 : Int) (a1 : Int) (r1 : Int) (r2 : Int) (r3 : Bool) (w : World) (h : dragomanref18_Pack.f k a0 a1 = some (r1, r2, r3)) :
    Calls Try.prog 33 #[.int .i64 a0, .int .i64 a1] w fun e w' => e = .returned (.tuple #[.int .u8 r1, .int .u8 r2, .bool r3]) ∧ Drawn0 w w' := by
  have H : (if a0 < 1 then (dragomanref18_Pack.j0 k a0 a1 true) else (if a0 > 94 then (dragomanref18_Pack.j0 k a0 a1 true) else (if a1 < 1 then (dragomanref18_Pack.j0 k a0 a1 true) else (dragomanref18_Pack.j0 k a0 a1 (decide (a1 > 94)))))) = some (r1, r2, r3) := h
  clear h
  have HC3 := Aside0.mk H
  clear H
  go_enter Try.func33, Try.ntmps33
  go_upto_region 1 with (fail)
  go_cut [23] (fun v23 wc => ∃ (kq : Nat) (x23_2 : Bool), v23 = .bool x23_2 ∧ Aside0 (dragomanref18_Pack.j0 kq a0 a1 x23_2 = some (r1, r2, r3)) ∧ Aside0 (kq ≤ k) ∧ Drawn0 w wc)
  case first =>
    have H := HC3.out
    clear HC3
    by_cases c4 : a0 < 1
    · rw [if_pos c4] at H
      have c4b0 : decide (a0 < 1) = true := decide_eq_true c4
      clear c4
      (first | rw [c4b0] | (simp only [i64_w, i32_w]; rw [c4b0]) | skip)
      have H' := Aside0.mk H
      clear H
      go_wp2
      go_meet
      case rel => exact ⟨_, (true), (by first | rfl | (simp; done) | (simp [*]; done)), H', ⟨by first | omega | exact Nat.le_refl _⟩, by repeat (first | exact Drawn0.refl _ | apply Drawn0.step)⟩
    · rw [if_neg c4] at H
      have c4b0 : decide (a0 < 1) = false := decide_eq_false c4
      clear c4
      (first | rw [c4b0] | (simp only [i64_w, i32_w]; rw [c4b0]) | skip)
      by_cases c5 : a0 > 94
      · rw [if_pos c5] at H
        have c5b0 : decide (94 < a0) = true := decide_eq_true c5
        clear c5
        have H' := Aside0.mk H
        clear H
        go_wp2
        go_meet
        case rel => exact ⟨_, (true), (by first | rfl | (simp; done) | (simp [*]; done)), H', ⟨by first | omega | exact Nat.le_refl _⟩, by repeat (first | exact Drawn0.refl _ | apply Drawn0.step)⟩
      · rw [if_neg c5] at H
        have c5b0 : decide (94 < a0) = false := decide_eq_false c5
        clear c5
        by_cases c6 : a1 < 1
        · rw [if_pos c6] at H
          have c6b0 : decide (a1 < 1) = true := decide_eq_true c6
          clear c6
          have H' := Aside0.mk H
          clear H
          go_wp2
          go_meet
          case rel => exact ⟨_, (true), (by first | rfl | (simp; done) | (simp [*]; done)), H', ⟨by first | omega | exact Nat.le_refl _⟩, by repeat (first | exact Drawn0.refl _ | apply Drawn0.step)⟩
        · rw [if_neg c6] at H
          have c6b0 : decide (a1 < 1) = false := decide_eq_false c6
          clear c6
          have H' := Aside0.mk H
          clear H
          go_wp2
          go_meet
          case rel => exact ⟨_, (decide (a1 > 94)), (by first | rfl | (simp; done) | (simp [*]; done)), H', ⟨by first | omega | exact Nat.le_refl _⟩, by repeat (first | exact Drawn0.refl _ | apply Drawn0.step)⟩
  case rest =>
    clear HC3
    try clear p2
    try clear c3
    try clear c4
    try clear c4b0
    try clear c5
    try clear c5b0
    try clear c6
    try clear c6b0
    obtain ⟨kq, x23_2, rfl, HA, HJ2, ⟨mc2, rfl⟩⟩ := hcut
    cases kq with
    | zero => exact absurd HA.out (by simp [dragomanref18_Pack.j0])
    | succ kj2 =>
      have H := HA.out
      clear HA
      simp only [dragomanref18_Pack.j0] at H
      by_cases c7 : x23_2 = true
      · subst c7
        have H1 : (some (0, 0, false)) = some (r1, r2, r3) := by rw [if_pos rfl] at H; exact H
        clear H
        have H := H1
        clear H1
        simp only [Option.some.injEq, Prod.mk.injEq] at H
        obtain ⟨rfl, rfl, rfl⟩ := H
        go_wp2
        go_ret3
        exact ⟨by first | rfl | (simp; done) | (simp [*]; done), by repeat (first | exact Drawn0.refl _ | apply Drawn0.step)⟩
      · replace c7 := Bool.eq_false_iff.mpr c7
        subst c7
        have H1 : (if (wrap64 (129 + (wrap64 (Int.tdiv (wrap64 (a0 - 1)) 2)))) > 159 then (dragomanref18_Pack.j1 kj2 a0 a1 (wrap64 (193 + (wrap64 (Int.tdiv (wrap64 (a0 - 1)) 2))))) else (dragomanref18_Pack.j1 kj2 a0 a1 (wrap64 (129 + (wrap64 (Int.tdiv (wrap64 (a0 - 1)) 2)))))) = some (r1, r2, r3) := by rw [if_neg (show ¬ (false = true) by decide)] at H; exact H
        clear H
        have H := H1
        clear H1
        have HC8 := Aside0.mk H
        clear H
        go_upto_if 30 with (fail)
        go_cut [8] (fun v8 wc => ∃ (kq : Nat) (x8_7 : Int), v8 = .int .i64 x8_7 ∧ Aside0 (dragomanref18_Pack.j1 kq a0 a1 x8_7 = some (r1, r2, r3)) ∧ Aside0 (kq ≤ kj2) ∧ Drawn0 w wc)
        case first =>
          have H := HC8.out
          clear HC8
          by_cases c9 : (wrap64 (129 + (wrap64 (Int.tdiv (wrap64 (a0 - 1)) 2)))) > 159
          · rw [if_pos c9] at H
            have c9b0 : decide (159 < (wrap64 (129 + (wrap64 (Int.tdiv (wrap64 (a0 - 1)) 2))))) = true := decide_eq_true c9
            clear c9
            (first | rw [c9b0] | (simp only [i64_w, i32_w]; rw [c9b0]) | skip)
            have H' := Aside0.mk H
            clear H
            go_wp2
            go_meet
            case rel => exact ⟨_, (wrap64 (193 + (wrap64 (Int.tdiv (wrap64 (a0 - 1)) 2)))), (by first | rfl | (simp; done) | (simp [*]; done)), H', ⟨by have := HJ2.out; first | omega | exact Nat.le_refl _⟩, by repeat (first | exact Drawn0.refl _ | apply Drawn0.step)⟩
          · rw [if_neg c9] at H
            have c9b0 : decide (159 < (wrap64 (129 + (wrap64 (Int.tdiv (wrap64 (a0 - 1)) 2))))) = false := decide_eq_false c9
            clear c9
            (first | rw [c9b0] | (simp only [i64_w, i32_w]; rw [c9b0]) | skip)
            have H' := Aside0.mk H
            clear H
            go_wp2
            go_meet
            case rel => exact ⟨_, (wrap64 (129 + (wrap64 (Int.tdiv (wrap64 (a0 - 1)) 2)))), (by first | rfl | (simp; done) | (simp [*]; done)), H', ⟨by have := HJ2.out; first | omega | exact Nat.le_refl _⟩, by repeat (first | exact Drawn0.refl _ | apply Drawn0.step)⟩
        case rest =>
          clear HC8
          try clear c2
          try clear p2
          try clear c3
          try clear c4
          try clear c4b0
          try clear c5
          try clear c5b0
          try clear c6
          try clear c6b0
          try clear p6
          try clear c7
          try clear c9
          try clear c9b0
          try clear p2
          obtain ⟨kq, x8_7, rfl, HA, HJ7, ⟨mc7, rfl⟩⟩ := hcut
          cases kq with
          | zero => exact absurd HA.out (by simp [dragomanref18_Pack.j1])
          | succ kj7 =>
            have H := HA.out
            clear HA
            simp only [dragomanref18_Pack.j1] at H
            by_cases c10 : (Int.tmod a0 2) = 1
            · rw [if_pos c10] at H
              have c10b0 : ((Int.tmod a0 2) == 1) = true := beq_iff_eq.mpr c10
              have c10b1 : ((Int.tmod a0 2) != 1) = false := bne_eq_false_iff_eq.mpr c10
              clear c10
              by_cases c11 : a1 > 63
              · rw [if_pos c11] at H
                have c11b0 : decide (63 < a1) = true := decide_eq_true c11
                clear c11
                simp only [Option.some.injEq, Prod.mk.injEq] at H
                obtain ⟨rfl, rfl, rfl⟩ := H
                go_wp2
                go_ret3
                exact ⟨by first | rfl | (simp; done) | (simp [*]; done), by repeat (first | exact Drawn0.refl _ | apply Drawn0.step)⟩
              · rw [if_neg c11] at H
                have c11b0 : decide (63 < a1) = false := decide_eq_false c11
                clear c11
                simp only [Option.some.injEq, Prod.mk.injEq] at H
                obtain ⟨rfl, rfl, rfl⟩ := H
                go_wp2
                go_ret3
                exact ⟨by first | rfl | (simp; done) | (simp [*]; done), by repeat (first | exact Drawn0.refl _ | apply Drawn0.step)⟩
            · rw [if_neg c10] at H
              have c10b0 : ((Int.tmod a0 2) == 1) = false := beq_eq_false_iff_ne.mpr c10
              have c10b1 : ((Int.tmod a0 2) != 1) = true := bne_iff_ne.mpr c10
              simp only [Option.some.injEq, Prod.mk.injEq] at H
              obtain ⟨rfl, rfl, rfl⟩ := H
              go_wp2
              go_ret3
              exact ⟨by first | rfl | (simp; done) | (simp [*]; done), by repeat (first | exact Drawn0.refl _ | apply Drawn0.step)⟩

/-! ### sjis_isLead: function 42 -/
def sjis_isLead.f (a0 : Int) : Option (Bool) := if a0 ≥ 129 then (if a0 ≤ 159 then (some true) else (if a0 ≥ 224 then (some (decide (a0 ≤ 239))) else (some false))) else (if a0 ≥ 224 then (some (decide (a0 ≤ 239))) else (some false))
set_option maxHeartbeats 8000000 in
set_option maxRecDepth 100000 in
theorem sjis_isLead.calls (a0 : Int) (r : Bool) (w : World) (h : sjis_isLead.f a0 = some r) :
    Calls Try.prog 42 #[.int .u8 a0] w fun e w' => e = .returned (.bool r) ∧ Drawn0 w w' := by
  have H : (if a0 ≥ 129 then (if a0 ≤ 159 then (some true) else (if a0 ≥ 224 then (some (decide (a0 ≤ 239))) else (some false))) else (if a0 ≥ 224 then (some (decide (a0 ≤ 239))) else (some false))) = some r := h
  clear h
  by_cases c2 : a0 ≥ 129
  · rw [if_pos c2] at H
    have c2b0 : decide (129 ≤ a0) = true := decide_eq_true c2
    clear c2
    by_cases c3 : a0 ≤ 159
    · rw [if_pos c3] at H
      have c3b0 : decide (a0 ≤ 159) = true := decide_eq_true c3
      clear c3
      obtain rfl := Option.some.inj H
      go_enter Try.func42, Try.ntmps42
      go_wp2
      go_ret
      exact ⟨by first | rfl | (simp; done) | (simp [*]; done), by repeat (first | exact Drawn0.refl _ | apply Drawn0.step)⟩
    · rw [if_neg c3] at H
      have c3b0 : decide (a0 ≤ 159) = false := decide_eq_false c3
      clear c3
      by_cases c4 : a0 ≥ 224
      · rw [if_pos c4] at H
        have c4b0 : decide (224 ≤ a0) = true := decide_eq_true c4
        clear c4
        obtain rfl := Option.some.inj H
        go_enter Try.func42, Try.ntmps42
        go_wp2
        go_ret
        exact ⟨by first | rfl | (simp; done) | (simp [*]; done), by repeat (first | exact Drawn0.refl _ | apply Drawn0.step)⟩
      · rw [if_neg c4] at H
        have c4b0 : decide (224 ≤ a0) = false := decide_eq_false c4
        clear c4
        obtain rfl := Option.some.inj H
        go_enter Try.func42, Try.ntmps42
        go_wp2
        go_ret
        exact ⟨by first | rfl | (simp; done) | (simp [*]; done), by repeat (first | exact Drawn0.refl _ | apply Drawn0.step)⟩
  · rw [if_neg c2] at H
    have c2b0 : decide (129 ≤ a0) = false := decide_eq_false c2
    clear c2
    by_cases c5 : a0 ≥ 224
    · rw [if_pos c5] at H
      have c5b0 : decide (224 ≤ a0) = true := decide_eq_true c5
      clear c5
      obtain rfl := Option.some.inj H
      go_enter Try.func42, Try.ntmps42
      go_wp2
      go_ret
      exact ⟨by first | rfl | (simp; done) | (simp [*]; done), by repeat (first | exact Drawn0.refl _ | apply Drawn0.step)⟩
    · rw [if_neg c5] at H
      have c5b0 : decide (224 ≤ a0) = false := decide_eq_false c5
      clear c5
      obtain rfl := Option.some.inj H
      go_enter Try.func42, Try.ntmps42
      go_wp2
      go_ret
      exact ⟨by first | rfl | (simp; done) | (simp [*]; done), by repeat (first | exact Drawn0.refl _ | apply Drawn0.step)⟩

/-! ### sjis_isTrail: function 43 -/
def sjis_isTrail.f (a0 : Int) : Option (Bool) := if a0 ≥ 64 then (if a0 ≤ 252 then (some (a0 != 127)) else (some false)) else (some false)
set_option maxHeartbeats 8000000 in
set_option maxRecDepth 100000 in
theorem sjis_isTrail.calls (a0 : Int) (r : Bool) (w : World) (h : sjis_isTrail.f a0 = some r) :
    Calls Try.prog 43 #[.int .u8 a0] w fun e w' => e = .returned (.bool r) ∧ Drawn0 w w' := by
  have H : (if a0 ≥ 64 then (if a0 ≤ 252 then (some (a0 != 127)) else (some false)) else (some false)) = some r := h
  clear h
  by_cases c2 : a0 ≥ 64
  · rw [if_pos c2] at H
    have c2b0 : decide (64 ≤ a0) = true := decide_eq_true c2
    clear c2
    by_cases c3 : a0 ≤ 252
    · rw [if_pos c3] at H
      have c3b0 : decide (a0 ≤ 252) = true := decide_eq_true c3
      clear c3
      obtain rfl := Option.some.inj H
      go_enter Try.func43, Try.ntmps43
      go_wp2
      go_ret
      exact ⟨by first | rfl | (simp; done) | (simp [*]; done), by repeat (first | exact Drawn0.refl _ | apply Drawn0.step)⟩
    · rw [if_neg c3] at H
      have c3b0 : decide (a0 ≤ 252) = false := decide_eq_false c3
      clear c3
      obtain rfl := Option.some.inj H
      go_enter Try.func43, Try.ntmps43
      go_wp2
      go_ret
      exact ⟨by first | rfl | (simp; done) | (simp [*]; done), by repeat (first | exact Drawn0.refl _ | apply Drawn0.step)⟩
  · rw [if_neg c2] at H
    have c2b0 : decide (64 ≤ a0) = false := decide_eq_false c2
    clear c2
    obtain rfl := Option.some.inj H
    go_enter Try.func43, Try.ntmps43
    go_wp2
    go_ret
    exact ⟨by first | rfl | (simp; done) | (simp [*]; done), by repeat (first | exact Drawn0.refl _ | apply Drawn0.step)⟩

/-! ### sjis_Unpack: function 34 -/
mutual
def sjis_Unpack.j0 : Nat → Int → Int → Bool → Option (Int × Int × Bool)
  | 0, _, _, _ => none
  | k + 1, x0, x1, x16 => if x16 = true then (some (0, 0, false)) else (if x0 ≥ 224 then (sjis_Unpack.j1 k x1 (wrap64 ((wrap64 ((wrap64 (x0)) - 129)) - 64))) else (sjis_Unpack.j1 k x1 (wrap64 ((wrap64 (x0)) - 129))))
def sjis_Unpack.j1 : Nat → Int → Int → Option (Int × Int × Bool)
  | 0, _, _ => none
  | k + 1, x1, x7 => if x1 ≥ 159 then (some (wrap64 ((wrap64 (2 * x7)) + 2), wrap64 ((wrap64 ((wrap64 (x1)) - 159)) + 1), true)) else (if x1 > 127 then (some (wrap64 ((wrap64 (2 * x7)) + 1), wrap64 ((wrap64 ((wrap64 ((wrap64 (x1)) - 64)) + 1)) - 1), true)) else (some (wrap64 ((wrap64 (2 * x7)) + 1), wrap64 ((wrap64 ((wrap64 (x1)) - 64)) + 1), true)))
end
def sjis_Unpack.f (k : Nat) (a0 : Int) (a1 : Int) : Option (Int × Int × Bool) := (sjis_isLead.f a0).bind fun t101 => (if t101 = true then ((sjis_isTrail.f a1).bind fun t102 => (sjis_Unpack.j0 k a0 a1 (!t102))) else (sjis_Unpack.j0 k a0 a1 true))
theorem sjis_Unpack.mono_l : ∀ k, (∀ y0 y1 y2, LeO (sjis_Unpack.j0 k y0 y1 y2) (sjis_Unpack.j0 (k + 1) y0 y1 y2)) ∧ (∀ y0 y1, LeO (sjis_Unpack.j1 k y0 y1) (sjis_Unpack.j1 (k + 1) y0 y1))
  | 0 => ⟨fun _ _ _ r h => by simp [sjis_Unpack.j0] at h, fun _ _ r h => by simp [sjis_Unpack.j1] at h⟩
  | k + 1 => by
    obtain ⟨ih0, ih1⟩ := sjis_Unpack.mono_l k
    refine ⟨?_, ?_⟩
    · intro y0 y1 y2
      unfold sjis_Unpack.j0
      repeat' first
      | (with_reducible exact ih0 _ _ _)
      | (with_reducible exact ih1 _ _)
      | (with_reducible exact LeO.refl _)
      | (with_reducible exact LeO.none _)
      | (with_reducible refine LeO.ite ?_ ?_)
      | (with_reducible refine LeO.bind ?_ (fun _ => ?_))
      | exact ih0 _ _ _
      | exact ih1 _ _
      | exact LeO.none _
      | refine LeO.ite ?_ ?_
      | refine LeO.bind ?_ (fun _ => ?_)
    · intro y0 y1
      unfold sjis_Unpack.j1
      repeat' first
      | (with_reducible exact ih0 _ _ _)
      | (with_reducible exact ih1 _ _)
      | (with_reducible exact LeO.refl _)
      | (with_reducible exact LeO.none _)
      | (with_reducible refine LeO.ite ?_ ?_)
      | (with_reducible refine LeO.bind ?_ (fun _ => ?_))
      | exact ih0 _ _ _
      | exact ih1 _ _
      | exact LeO.none _
      | refine LeO.ite ?_ ?_
      | refine LeO.bind ?_ (fun _ => ?_)
theorem sjis_Unpack.mono : ∀ a0 a1 k, LeO (sjis_Unpack.f k a0 a1) (sjis_Unpack.f (k + 1) a0 a1) := by
  intro a0 a1 k
  obtain ⟨ih0, ih1⟩ := sjis_Unpack.mono_l k
  unfold sjis_Unpack.f
  repeat' first
      | (with_reducible exact ih0 _ _ _)
      | (with_reducible exact ih1 _ _)
      | (with_reducible exact LeO.refl _)
      | (with_reducible exact LeO.none _)
      | (with_reducible refine LeO.ite ?_ ?_)
      | (with_reducible refine LeO.bind ?_ (fun _ => ?_))
      | exact ih0 _ _ _
      | exact ih1 _ _
      | exact LeO.none _
      | refine LeO.ite ?_ ?_
      | refine LeO.bind ?_ (fun _ => ?_)
set_option maxHeartbeats 8000000 in
set_option maxRecDepth 100000 in
theorem sjis_Unpack.calls (k : Nat) (a0 : Int) (a1 : Int) (r1 : Int) (r2 : Int) (r3 : Bool) (w : World) (h : sjis_Unpack.f k a0 a1 = some (r1, r2, r3)) :
    Calls Try.prog 34 #[.int .u8 a0, .int .u8 a1] w fun e w' => e = .returned (.tuple #[.int .i64 r1, .int .i64 r2, .bool r3]) ∧ Drawn0 w w' := by
  have H : ((sjis_isLead.f a0).bind fun t101 => (if t101 = true then ((sjis_isTrail.f a1).bind fun t102 => (sjis_Unpack.j0 k a0 a1 (!t102))) else (sjis_Unpack.j0 k a0 a1 true))) = some (r1, r2, r3) := h
  clear h
  have HC3 := Aside0.mk H
  clear H
  go_enter Try.func34, Try.ntmps34
  go_upto_region 1 with (fail)
  go_cut [16] (fun v16 wc => ∃ (kq : Nat) (x16_2 : Bool), v16 = .bool x16_2 ∧ Aside0 (sjis_Unpack.j0 kq a0 a1 x16_2 = some (r1, r2, r3)) ∧ Aside0 (kq ≤ k) ∧ Drawn0 w wc)
  case first =>
    have H := HC3.out
    clear HC3
    replace H := Option.bind_eq_some_iff.mp H
    obtain ⟨t101, A40, H⟩ := H
    replace H : (if t101 = true then ((sjis_isTrail.f a1).bind fun t102 => (sjis_Unpack.j0 k a0 a1 (!t102))) else (sjis_Unpack.j0 k a0 a1 true)) = some (r1, r2, r3) := H
    have A4 := Aside0.mk A40
    clear A40
    by_cases c5 : t101 = true
    · subst c5
      have H1 : ((sjis_isTrail.f a1).bind fun t102 => (sjis_Unpack.j0 k a0 a1 (!t102))) = some (r1, r2, r3) := by rw [if_pos rfl] at H; exact H
      clear H
      have H := H1
      clear H1
      replace H := Option.bind_eq_some_iff.mp H
      obtain ⟨t102, A60, H⟩ := H
      replace H : (sjis_Unpack.j0 k a0 a1 (!t102)) = some (r1, r2, r3) := H
      have A6 := Aside0.mk A60
      clear A60
      have H' := Aside0.mk H
      clear H
      go_wp2_with (first | ((with_reducible refine gate_callee (f := 42) rfl ?_); refine goesL_ (some 10) rfl rfl Try.func42 (by kernel_rfl) rfl #[.int .u8 a0] rfl (by (try simp only [List.map_toArray, List.map_cons, List.map_nil]); first | done | rfl | (simp only [List.length_drop, List.length_take]; rfl)) ?_; (with_reducible refine (sjis_isLead.calls a0 true _ A4.out).mono ?_); rintro e w' ⟨rfl, ⟨nd, rfl⟩⟩; refine ⟨_, rfl, ?_⟩) | (go_at_call 43; (with_reducible refine (sjis_isTrail.calls a1 t102 _ A6.out).mono ?_); rintro e w' ⟨rfl, ⟨nd, rfl⟩⟩))
      go_meet
      case rel => exact ⟨_, (!t102), (by first | rfl | (simp; done) | (simp [*]; done)), H', ⟨by first | omega | exact Nat.le_refl _⟩, by repeat (first | exact Drawn0.refl _ | apply Drawn0.step)⟩
    · replace c5 := Bool.eq_false_iff.mpr c5
      subst c5
      have H1 : (sjis_Unpack.j0 k a0 a1 true) = some (r1, r2, r3) := by rw [if_neg (show ¬ (false = true) by decide)] at H; exact H
      clear H
      have H := H1
      clear H1
      have H' := Aside0.mk H
      clear H
      go_wp2_with (first | ((with_reducible refine gate_callee (f := 42) rfl ?_); refine goesL_ (some 10) rfl rfl Try.func42 (by kernel_rfl) rfl #[.int .u8 a0] rfl (by (try simp only [List.map_toArray, List.map_cons, List.map_nil]); first | done | rfl | (simp only [List.length_drop, List.length_take]; rfl)) ?_; (with_reducible refine (sjis_isLead.calls a0 false _ A4.out).mono ?_); rintro e w' ⟨rfl, ⟨nd, rfl⟩⟩; refine ⟨_, rfl, ?_⟩))
      go_meet
      case rel => exact ⟨_, (true), (by first | rfl | (simp; done) | (simp [*]; done)), H', ⟨by first | omega | exact Nat.le_refl _⟩, by repeat (first | exact Drawn0.refl _ | apply Drawn0.step)⟩
  case rest =>
    clear HC3
    try clear p2
    try clear c3
    try clear c4
    try clear c5
    obtain ⟨kq, x16_2, rfl, HA, HJ2, ⟨mc2, rfl⟩⟩ := hcut
    cases kq with
    | zero => exact absurd HA.out (by simp [sjis_Unpack.j0])
    | succ kj2 =>
      have H := HA.out
      clear HA
      simp only [sjis_Unpack.j0] at H
      by_cases c7 : x16_2 = true
      · subst c7
        have H1 : (some (0, 0, false)) = some (r1, r2, r3) := by rw [if_pos rfl] at H; exact H
        clear H
        have H := H1
        clear H1
        simp only [Option.some.injEq, Prod.mk.injEq] at H
        obtain ⟨rfl, rfl, rfl⟩ := H
        go_wp2
        go_ret3
        exact ⟨by first | rfl | (simp; done) | (simp [*]; done), by repeat (first | exact Drawn0.refl _ | apply Drawn0.step)⟩
      · replace c7 := Bool.eq_false_iff.mpr c7
        subst c7
        have H1 : (if a0 ≥ 224 then (sjis_Unpack.j1 kj2 a1 (wrap64 ((wrap64 ((wrap64 (a0)) - 129)) - 64))) else (sjis_Unpack.j1 kj2 a1 (wrap64 ((wrap64 (a0)) - 129)))) = some (r1, r2, r3) := by rw [if_neg (show ¬ (false = true) by decide)] at H; exact H
        clear H
        have H := H1
        clear H1
        have HC8 := Aside0.mk H
        clear H
        go_upto_if 21 with (fail)
        go_cut [7] (fun v7 wc => ∃ (kq : Nat) (x7_7 : Int), v7 = .int .i64 x7_7 ∧ Aside0 (sjis_Unpack.j1 kq a1 x7_7 = some (r1, r2, r3)) ∧ Aside0 (kq ≤ kj2) ∧ Drawn0 w wc)
        case first =>
          have H := HC8.out
          clear HC8
          by_cases c9 : a0 ≥ 224
          · rw [if_pos c9] at H
            have c9b0 : decide (224 ≤ a0) = true := decide_eq_true c9
            clear c9
            (first | rw [c9b0] | (simp only [i64_w, i32_w]; rw [c9b0]) | skip)
            have H' := Aside0.mk H
            clear H
            go_wp2
            go_meet
            case rel => exact ⟨_, (wrap64 ((wrap64 ((wrap64 (a0)) - 129)) - 64)), (by first | rfl | (simp; done) | (simp [*]; done)), H', ⟨by have := HJ2.out; first | omega | exact Nat.le_refl _⟩, by repeat (first | exact Drawn0.refl _ | apply Drawn0.step)⟩
          · rw [if_neg c9] at H
            have c9b0 : decide (224 ≤ a0) = false := decide_eq_false c9
            clear c9
            (first | rw [c9b0] | (simp only [i64_w, i32_w]; rw [c9b0]) | skip)
            have H' := Aside0.mk H
            clear H
            go_wp2
            go_meet
            case rel => exact ⟨_, (wrap64 ((wrap64 (a0)) - 129)), (by first | rfl | (simp; done) | (simp [*]; done)), H', ⟨by have := HJ2.out; first | omega | exact Nat.le_refl _⟩, by repeat (first | exact Drawn0.refl _ | apply Drawn0.step)⟩
        case rest =>
          clear HC8
          try clear c2
          try clear p2
          try clear c3
          try clear c4
          try clear c5
          try clear p6
          try clear c7
          try clear c9
          try clear c9b0
          try clear p2
          obtain ⟨kq, x7_7, rfl, HA, HJ7, ⟨mc7, rfl⟩⟩ := hcut
          cases kq with
          | zero => exact absurd HA.out (by simp [sjis_Unpack.j1])
          | succ kj7 =>
            have H := HA.out
            clear HA
            simp only [sjis_Unpack.j1] at H
            by_cases c10 : a1 ≥ 159
            · rw [if_pos c10] at H
              have c10b0 : decide (159 ≤ a1) = true := decide_eq_true c10
              clear c10
              simp only [Option.some.injEq, Prod.mk.injEq] at H
              obtain ⟨rfl, rfl, rfl⟩ := H
              go_wp2
              go_ret3
              exact ⟨by first | rfl | (simp; done) | (simp [*]; done), by repeat (first | exact Drawn0.refl _ | apply Drawn0.step)⟩
            · rw [if_neg c10] at H
              have c10b0 : decide (159 ≤ a1) = false := decide_eq_false c10
              clear c10
              by_cases c11 : a1 > 127
              · rw [if_pos c11] at H
                have c11b0 : decide (127 < a1) = true := decide_eq_true c11
                clear c11
                simp only [Option.some.injEq, Prod.mk.injEq] at H
                obtain ⟨rfl, rfl, rfl⟩ := H
                go_wp2
                go_ret3
                exact ⟨by first | rfl | (simp; done) | (simp [*]; done), by repeat (first | exact Drawn0.refl _ | apply Drawn0.step)⟩
              · rw [if_neg c11] at H
                have c11b0 : decide (127 < a1) = false := decide_eq_false c11
                clear c11
                simp only [Option.some.injEq, Prod.mk.injEq] at H
                obtain ⟨rfl, rfl, rfl⟩ := H
                go_wp2
                go_ret3
                exact ⟨by first | rfl | (simp; done) | (simp [*]; done), by repeat (first | exact Drawn0.refl _ | apply Drawn0.step)⟩

end Go.Proofs.Ytadhfojgifhjcaa.PSjisPacks
