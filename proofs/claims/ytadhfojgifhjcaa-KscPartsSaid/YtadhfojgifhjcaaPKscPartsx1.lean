-- PRINTED BY print.sh 35421559b90ae4d0a3588c463048766b98c2df88dd9212a6774a882060cdf62d: not written by this session
import Derived.Test.YtadhfojgifhjcaaPKscPartsx0
namespace Go.Proofs.Ytadhfojgifhjcaa.PKscParts
open Go.RowKit Go.Proofs.YtadhfojgifhjcaaW.PrintWords Go.Proofs.YtadhfojgifhjcaaW.PrintLast Go.Proofs.YtadhfojgifhjcaaW.PrintMore
attribute [local go_sem] max2_int min2_int max_two min_two max_three min_three max_four min_four   -- for this text's walks alone
set_option linter.unusedVariables false
set_option linter.unusedSimpArgs false

/-! ### ksc_Syllable: function 11 -/
def ksc_Syllable.f (a0 : Int) (a1 : Int) (a2 : Int) : Option (Int × Bool) := if a0 < 0 then (some (0, false)) else (if a0 ≥ 19 then (some (0, false)) else (if a1 < 0 then (some (0, false)) else (if a1 ≥ 21 then (some (0, false)) else (if a2 < 0 then (some (0, false)) else (if a2 ≥ 28 then (some (0, false)) else (some (wrap32 (wrap64 ((wrap64 (44032 + (wrap64 ((wrap64 ((wrap64 (a0 * 21)) + a1)) * 28)))) + a2)), true)))))))
set_option maxHeartbeats 8000000 in
set_option maxRecDepth 100000 in
theorem ksc_Syllable.calls (a0 : Int) (a1 : Int) (a2 : Int) (r1 : Int) (r2 : Bool) (w : World) (h : ksc_Syllable.f a0 a1 a2 = some (r1, r2)) :
    Calls Try.prog 11 #[.int .i64 a0, .int .i64 a1, .int .i64 a2] w fun e w' => e = .returned (.tuple #[.int .i32 r1, .bool r2]) ∧ Drawn0 w w' := by
  have H : (if a0 < 0 then (some (0, false)) else (if a0 ≥ 19 then (some (0, false)) else (if a1 < 0 then (some (0, false)) else (if a1 ≥ 21 then (some (0, false)) else (if a2 < 0 then (some (0, false)) else (if a2 ≥ 28 then (some (0, false)) else (some (wrap32 (wrap64 ((wrap64 (44032 + (wrap64 ((wrap64 ((wrap64 (a0 * 21)) + a1)) * 28)))) + a2)), true)))))))) = some (r1, r2) := h
  clear h
  by_cases c4 : a0 < 0
  · rw [if_pos c4] at H
    have c4b0 : decide (a0 < 0) = true := decide_eq_true c4
    clear c4
    simp only [Option.some.injEq, Prod.mk.injEq] at H
    obtain ⟨rfl, rfl⟩ := H
    go_enter Try.func11, Try.ntmps11
    go_wp2
    go_ret2
    exact ⟨by first | rfl | (simp; done) | (simp [*]; done), by repeat (first | exact Drawn0.refl _ | apply Drawn0.step)⟩
  · rw [if_neg c4] at H
    have c4b0 : decide (a0 < 0) = false := decide_eq_false c4
    clear c4
    by_cases c5 : a0 ≥ 19
    · rw [if_pos c5] at H
      have c5b0 : decide (19 ≤ a0) = true := decide_eq_true c5
      clear c5
      simp only [Option.some.injEq, Prod.mk.injEq] at H
      obtain ⟨rfl, rfl⟩ := H
      go_enter Try.func11, Try.ntmps11
      go_wp2
      go_ret2
      exact ⟨by first | rfl | (simp; done) | (simp [*]; done), by repeat (first | exact Drawn0.refl _ | apply Drawn0.step)⟩
    · rw [if_neg c5] at H
      have c5b0 : decide (19 ≤ a0) = false := decide_eq_false c5
      clear c5
      by_cases c6 : a1 < 0
      · rw [if_pos c6] at H
        have c6b0 : decide (a1 < 0) = true := decide_eq_true c6
        clear c6
        simp only [Option.some.injEq, Prod.mk.injEq] at H
        obtain ⟨rfl, rfl⟩ := H
        go_enter Try.func11, Try.ntmps11
        go_wp2
        go_ret2
        exact ⟨by first | rfl | (simp; done) | (simp [*]; done), by repeat (first | exact Drawn0.refl _ | apply Drawn0.step)⟩
      · rw [if_neg c6] at H
        have c6b0 : decide (a1 < 0) = false := decide_eq_false c6
        clear c6
        by_cases c7 : a1 ≥ 21
        · rw [if_pos c7] at H
          have c7b0 : decide (21 ≤ a1) = true := decide_eq_true c7
          clear c7
          simp only [Option.some.injEq, Prod.mk.injEq] at H
          obtain ⟨rfl, rfl⟩ := H
          go_enter Try.func11, Try.ntmps11
          go_wp2
          go_ret2
          exact ⟨by first | rfl | (simp; done) | (simp [*]; done), by repeat (first | exact Drawn0.refl _ | apply Drawn0.step)⟩
        · rw [if_neg c7] at H
          have c7b0 : decide (21 ≤ a1) = false := decide_eq_false c7
          clear c7
          by_cases c8 : a2 < 0
          · rw [if_pos c8] at H
            have c8b0 : decide (a2 < 0) = true := decide_eq_true c8
            clear c8
            simp only [Option.some.injEq, Prod.mk.injEq] at H
            obtain ⟨rfl, rfl⟩ := H
            go_enter Try.func11, Try.ntmps11
            go_wp2
            go_ret2
            exact ⟨by first | rfl | (simp; done) | (simp [*]; done), by repeat (first | exact Drawn0.refl _ | apply Drawn0.step)⟩
          · rw [if_neg c8] at H
            have c8b0 : decide (a2 < 0) = false := decide_eq_false c8
            clear c8
            by_cases c9 : a2 ≥ 28
            · rw [if_pos c9] at H
              have c9b0 : decide (28 ≤ a2) = true := decide_eq_true c9
              clear c9
              simp only [Option.some.injEq, Prod.mk.injEq] at H
              obtain ⟨rfl, rfl⟩ := H
              go_enter Try.func11, Try.ntmps11
              go_wp2
              go_ret2
              exact ⟨by first | rfl | (simp; done) | (simp [*]; done), by repeat (first | exact Drawn0.refl _ | apply Drawn0.step)⟩
            · rw [if_neg c9] at H
              have c9b0 : decide (28 ≤ a2) = false := decide_eq_false c9
              clear c9
              simp only [Option.some.injEq, Prod.mk.injEq] at H
              obtain ⟨rfl, rfl⟩ := H
              go_enter Try.func11, Try.ntmps11
              go_wp2
              go_ret2
              exact ⟨by first | rfl | (simp; done) | (simp [*]; done), by repeat (first | exact Drawn0.refl _ | apply Drawn0.step)⟩

/-! ### dragomanref16_Syllable: function 12 -/
def dragomanref16_Syllable.f (a0 : Int) (a1 : Int) (a2 : Int) : Option (Int × Bool) := if a0 < 0 then (some (0, false)) else (if a0 > 18 then (some (0, false)) else (if a1 < 0 then (some (0, false)) else (if a1 > 20 then (some (0, false)) else (if a2 < 0 then (some (0, false)) else (if a2 > 27 then (some (0, false)) else (some (wrap32 (wrap64 ((wrap64 ((wrap64 (44032 + (wrap64 (a0 * 588)))) + (wrap64 (a1 * 28)))) + a2)), true)))))))
set_option maxHeartbeats 8000000 in
set_option maxRecDepth 100000 in
theorem dragomanref16_Syllable.calls (a0 : Int) (a1 : Int) (a2 : Int) (r1 : Int) (r2 : Bool) (w : World) (h : dragomanref16_Syllable.f a0 a1 a2 = some (r1, r2)) :
    Calls Try.prog 12 #[.int .i64 a0, .int .i64 a1, .int .i64 a2] w fun e w' => e = .returned (.tuple #[.int .i32 r1, .bool r2]) ∧ Drawn0 w w' := by
  have H : (if a0 < 0 then (some (0, false)) else (if a0 > 18 then (some (0, false)) else (if a1 < 0 then (some (0, false)) else (if a1 > 20 then (some (0, false)) else (if a2 < 0 then (some (0, false)) else (if a2 > 27 then (some (0, false)) else (some (wrap32 (wrap64 ((wrap64 ((wrap64 (44032 + (wrap64 (a0 * 588)))) + (wrap64 (a1 * 28)))) + a2)), true)))))))) = some (r1, r2) := h
  clear h
  by_cases c4 : a0 < 0
  · rw [if_pos c4] at H
    have c4b0 : decide (a0 < 0) = true := decide_eq_true c4
    clear c4
    simp only [Option.some.injEq, Prod.mk.injEq] at H
    obtain ⟨rfl, rfl⟩ := H
    go_enter Try.func12, Try.ntmps12
    go_wp2
    go_ret2
    exact ⟨by first | rfl | (simp; done) | (simp [*]; done), by repeat (first | exact Drawn0.refl _ | apply Drawn0.step)⟩
  · rw [if_neg c4] at H
    have c4b0 : decide (a0 < 0) = false := decide_eq_false c4
    clear c4
    by_cases c5 : a0 > 18
    · rw [if_pos c5] at H
      have c5b0 : decide (18 < a0) = true := decide_eq_true c5
      clear c5
      simp only [Option.some.injEq, Prod.mk.injEq] at H
      obtain ⟨rfl, rfl⟩ := H
      go_enter Try.func12, Try.ntmps12
      go_wp2
      go_ret2
      exact ⟨by first | rfl | (simp; done) | (simp [*]; done), by repeat (first | exact Drawn0.refl _ | apply Drawn0.step)⟩
    · rw [if_neg c5] at H
      have c5b0 : decide (18 < a0) = false := decide_eq_false c5
      clear c5
      by_cases c6 : a1 < 0
      · rw [if_pos c6] at H
        have c6b0 : decide (a1 < 0) = true := decide_eq_true c6
        clear c6
        simp only [Option.some.injEq, Prod.mk.injEq] at H
        obtain ⟨rfl, rfl⟩ := H
        go_enter Try.func12, Try.ntmps12
        go_wp2
        go_ret2
        exact ⟨by first | rfl | (simp; done) | (simp [*]; done), by repeat (first | exact Drawn0.refl _ | apply Drawn0.step)⟩
      · rw [if_neg c6] at H
        have c6b0 : decide (a1 < 0) = false := decide_eq_false c6
        clear c6
        by_cases c7 : a1 > 20
        · rw [if_pos c7] at H
          have c7b0 : decide (20 < a1) = true := decide_eq_true c7
          clear c7
          simp only [Option.some.injEq, Prod.mk.injEq] at H
          obtain ⟨rfl, rfl⟩ := H
          go_enter Try.func12, Try.ntmps12
          go_wp2
          go_ret2
          exact ⟨by first | rfl | (simp; done) | (simp [*]; done), by repeat (first | exact Drawn0.refl _ | apply Drawn0.step)⟩
        · rw [if_neg c7] at H
          have c7b0 : decide (20 < a1) = false := decide_eq_false c7
          clear c7
          by_cases c8 : a2 < 0
          · rw [if_pos c8] at H
            have c8b0 : decide (a2 < 0) = true := decide_eq_true c8
            clear c8
            simp only [Option.some.injEq, Prod.mk.injEq] at H
            obtain ⟨rfl, rfl⟩ := H
            go_enter Try.func12, Try.ntmps12
            go_wp2
            go_ret2
            exact ⟨by first | rfl | (simp; done) | (simp [*]; done), by repeat (first | exact Drawn0.refl _ | apply Drawn0.step)⟩
          · rw [if_neg c8] at H
            have c8b0 : decide (a2 < 0) = false := decide_eq_false c8
            clear c8
            by_cases c9 : a2 > 27
            · rw [if_pos c9] at H
              have c9b0 : decide (27 < a2) = true := decide_eq_true c9
              clear c9
              simp only [Option.some.injEq, Prod.mk.injEq] at H
              obtain ⟨rfl, rfl⟩ := H
              go_enter Try.func12, Try.ntmps12
              go_wp2
              go_ret2
              exact ⟨by first | rfl | (simp; done) | (simp [*]; done), by repeat (first | exact Drawn0.refl _ | apply Drawn0.step)⟩
            · rw [if_neg c9] at H
              have c9b0 : decide (27 < a2) = false := decide_eq_false c9
              clear c9
              simp only [Option.some.injEq, Prod.mk.injEq] at H
              obtain ⟨rfl, rfl⟩ := H
              go_enter Try.func12, Try.ntmps12
              go_wp2
              go_ret2
              exact ⟨by first | rfl | (simp; done) | (simp [*]; done), by repeat (first | exact Drawn0.refl _ | apply Drawn0.step)⟩

/-! ### ksc_Parts: function 13 -/
def ksc_Parts.f (a0 : Int) : Option (Int × Int × Int × Bool) := if (wrap64 ((wrap64 (a0)) - 44032)) < 0 then (some (0, 0, 0, false)) else (if (wrap64 ((wrap64 (a0)) - 44032)) ≥ 11172 then (some (0, 0, 0, false)) else (some (wrap64 (Int.tdiv (wrap64 (Int.tdiv (wrap64 ((wrap64 (a0)) - 44032)) 28)) 21), Int.tmod (wrap64 (Int.tdiv (wrap64 ((wrap64 (a0)) - 44032)) 28)) 21, Int.tmod (wrap64 ((wrap64 (a0)) - 44032)) 28, true)))
set_option maxHeartbeats 8000000 in
set_option maxRecDepth 100000 in
theorem ksc_Parts.calls (a0 : Int) (r1 : Int) (r2 : Int) (r3 : Int) (r4 : Bool) (w : World) (h : ksc_Parts.f a0 = some (r1, r2, r3, r4)) :
    Calls Try.prog 13 #[.int .i32 a0] w fun e w' => e = .returned (.tuple #[.int .i64 r1, .int .i64 r2, .int .i64 r3, .bool r4]) ∧ Drawn0 w w' := by
  have H : (if (wrap64 ((wrap64 (a0)) - 44032)) < 0 then (some (0, 0, 0, false)) else (if (wrap64 ((wrap64 (a0)) - 44032)) ≥ 11172 then (some (0, 0, 0, false)) else (some (wrap64 (Int.tdiv (wrap64 (Int.tdiv (wrap64 ((wrap64 (a0)) - 44032)) 28)) 21), Int.tmod (wrap64 (Int.tdiv (wrap64 ((wrap64 (a0)) - 44032)) 28)) 21, Int.tmod (wrap64 ((wrap64 (a0)) - 44032)) 28, true)))) = some (r1, r2, r3, r4) := h
  clear h
  by_cases c2 : (wrap64 ((wrap64 (a0)) - 44032)) < 0
  · rw [if_pos c2] at H
    have c2b0 : decide ((wrap64 ((wrap64 (a0)) - 44032)) < 0) = true := decide_eq_true c2
    clear c2
    simp only [Option.some.injEq, Prod.mk.injEq] at H
    obtain ⟨rfl, rfl, rfl, rfl⟩ := H
    go_enter Try.func13, Try.ntmps13
    go_wp2
    refine bodyPost_ret (results_list (rs := [.tmp 2, .tmp 3, .tmp 4, .tmp 5]) rfl (by simp) (.tmp (.tmp (.tmp (.tmp .nil))))) rfl ?_
    exact ⟨by first | rfl | (simp; done) | (simp [*]; done), by repeat (first | exact Drawn0.refl _ | apply Drawn0.step)⟩
  · rw [if_neg c2] at H
    have c2b0 : decide ((wrap64 ((wrap64 (a0)) - 44032)) < 0) = false := decide_eq_false c2
    clear c2
    by_cases c3 : (wrap64 ((wrap64 (a0)) - 44032)) ≥ 11172
    · rw [if_pos c3] at H
      have c3b0 : decide (11172 ≤ (wrap64 ((wrap64 (a0)) - 44032))) = true := decide_eq_true c3
      clear c3
      simp only [Option.some.injEq, Prod.mk.injEq] at H
      obtain ⟨rfl, rfl, rfl, rfl⟩ := H
      go_enter Try.func13, Try.ntmps13
      go_wp2
      refine bodyPost_ret (results_list (rs := [.tmp 2, .tmp 3, .tmp 4, .tmp 5]) rfl (by simp) (.tmp (.tmp (.tmp (.tmp .nil))))) rfl ?_
      exact ⟨by first | rfl | (simp; done) | (simp [*]; done), by repeat (first | exact Drawn0.refl _ | apply Drawn0.step)⟩
    · rw [if_neg c3] at H
      have c3b0 : decide (11172 ≤ (wrap64 ((wrap64 (a0)) - 44032))) = false := decide_eq_false c3
      clear c3
      simp only [Option.some.injEq, Prod.mk.injEq] at H
      obtain ⟨rfl, rfl, rfl, rfl⟩ := H
      go_enter Try.func13, Try.ntmps13
      go_wp2
      refine bodyPost_ret (results_list (rs := [.tmp 2, .tmp 3, .tmp 4, .tmp 5]) rfl (by simp) (.tmp (.tmp (.tmp (.tmp .nil))))) rfl ?_
      exact ⟨by first | rfl | (simp; done) | (simp [*]; done), by repeat (first | exact Drawn0.refl _ | apply Drawn0.step)⟩

/-! ### dragomanref16_Parts: function 14 -/
def dragomanref16_Parts.f (a0 : Int) : Option (Int × Int × Int × Bool) := if a0 < 44032 then (some (0, 0, 0, false)) else (if a0 > 55203 then (some (0, 0, 0, false)) else (some (wrap64 (Int.tdiv (wrap64 ((wrap64 (a0)) - 44032)) 588), wrap64 (Int.tdiv (Int.tmod (wrap64 ((wrap64 (a0)) - 44032)) 588) 28), Int.tmod (wrap64 ((wrap64 (a0)) - 44032)) 28, true)))
set_option maxHeartbeats 8000000 in
set_option maxRecDepth 100000 in
theorem dragomanref16_Parts.calls (a0 : Int) (r1 : Int) (r2 : Int) (r3 : Int) (r4 : Bool) (w : World) (h : dragomanref16_Parts.f a0 = some (r1, r2, r3, r4)) :
    Calls Try.prog 14 #[.int .i32 a0] w fun e w' => e = .returned (.tuple #[.int .i64 r1, .int .i64 r2, .int .i64 r3, .bool r4]) ∧ Drawn0 w w' := by
  have H : (if a0 < 44032 then (some (0, 0, 0, false)) else (if a0 > 55203 then (some (0, 0, 0, false)) else (some (wrap64 (Int.tdiv (wrap64 ((wrap64 (a0)) - 44032)) 588), wrap64 (Int.tdiv (Int.tmod (wrap64 ((wrap64 (a0)) - 44032)) 588) 28), Int.tmod (wrap64 ((wrap64 (a0)) - 44032)) 28, true)))) = some (r1, r2, r3, r4) := h
  clear h
  by_cases c2 : a0 < 44032
  · rw [if_pos c2] at H
    have c2b0 : decide (a0 < 44032) = true := decide_eq_true c2
    clear c2
    simp only [Option.some.injEq, Prod.mk.injEq] at H
    obtain ⟨rfl, rfl, rfl, rfl⟩ := H
    go_enter Try.func14, Try.ntmps14
    go_wp2
    refine bodyPost_ret (results_list (rs := [.tmp 2, .tmp 3, .tmp 4, .tmp 5]) rfl (by simp) (.tmp (.tmp (.tmp (.tmp .nil))))) rfl ?_
    exact ⟨by first | rfl | (simp; done) | (simp [*]; done), by repeat (first | exact Drawn0.refl _ | apply Drawn0.step)⟩
  · rw [if_neg c2] at H
    have c2b0 : decide (a0 < 44032) = false := decide_eq_false c2
    clear c2
    by_cases c3 : a0 > 55203
    · rw [if_pos c3] at H
      have c3b0 : decide (55203 < a0) = true := decide_eq_true c3
      clear c3
      simp only [Option.some.injEq, Prod.mk.injEq] at H
      obtain ⟨rfl, rfl, rfl, rfl⟩ := H
      go_enter Try.func14, Try.ntmps14
      go_wp2
      refine bodyPost_ret (results_list (rs := [.tmp 2, .tmp 3, .tmp 4, .tmp 5]) rfl (by simp) (.tmp (.tmp (.tmp (.tmp .nil))))) rfl ?_
      exact ⟨by first | rfl | (simp; done) | (simp [*]; done), by repeat (first | exact Drawn0.refl _ | apply Drawn0.step)⟩
    · rw [if_neg c3] at H
      have c3b0 : decide (55203 < a0) = false := decide_eq_false c3
      clear c3
      simp only [Option.some.injEq, Prod.mk.injEq] at H
      obtain ⟨rfl, rfl, rfl, rfl⟩ := H
      go_enter Try.func14, Try.ntmps14
      go_wp2
      refine bodyPost_ret (results_list (rs := [.tmp 2, .tmp 3, .tmp 4, .tmp 5]) rfl (by simp) (.tmp (.tmp (.tmp (.tmp .nil))))) rfl ?_
      exact ⟨by first | rfl | (simp; done) | (simp [*]; done), by repeat (first | exact Drawn0.refl _ | apply Drawn0.step)⟩

/-! ### dragomanlaw16_KscParts: function 3 -/
def dragomanlaw16_KscParts.j0 : Nat → Int → Int → Int → Int → Int → Bool → Int → Int → Int → Bool → Bool → Option (Bool)
  | 0, _, _, _, _, _, _, _, _, _, _, _ => none
  | k + 1, x0, x1, x2, x3, x9, x10, x13, x14, x15, x16, x82 => if x82 = true then (some false) else (if x10 = true then ((ksc_Parts.f x9).bind fun bt113 => (if bt113.1 = x0 then (if bt113.2.1 = x1 then (if bt113.2.2.1 = x2 then (if bt113.2.2.2 = true then ((ksc_Syllable.f x13 x14 x15).bind fun bt117 => (if x16 = true then (if bt117.2 = true then (some (bt117.1 == x3)) else (some false)) else (some true))) else (some false)) else (some false)) else (some false)) else (some false))) else ((ksc_Syllable.f x13 x14 x15).bind fun bt119 => (if x16 = true then (if bt119.2 = true then (some (bt119.1 == x3)) else (some false)) else (some true))))
def dragomanlaw16_KscParts.f (k : Nat) (a0 : Int) (a1 : Int) (a2 : Int) (a3 : Int) : Option (Bool) := (ksc_Syllable.f a0 a1 a2).bind fun bt101 => ((dragomanref16_Syllable.f a0 a1 a2).bind fun bt103 => ((ksc_Parts.f a3).bind fun bt105 => ((dragomanref16_Parts.f a3).bind fun bt109 => (if bt101.1 = bt103.1 then (if (bt101.2 != bt103.2) = true then (dragomanlaw16_KscParts.j0 k a0 a1 a2 a3 bt101.1 bt101.2 bt105.1 bt105.2.1 bt105.2.2.1 bt105.2.2.2 true) else (if bt105.1 = bt109.1 then (if bt105.2.1 = bt109.2.1 then (if bt105.2.2.1 = bt109.2.2.1 then (dragomanlaw16_KscParts.j0 k a0 a1 a2 a3 bt101.1 bt101.2 bt105.1 bt105.2.1 bt105.2.2.1 bt105.2.2.2 (bt105.2.2.2 != bt109.2.2.2)) else (dragomanlaw16_KscParts.j0 k a0 a1 a2 a3 bt101.1 bt101.2 bt105.1 bt105.2.1 bt105.2.2.1 bt105.2.2.2 true)) else (dragomanlaw16_KscParts.j0 k a0 a1 a2 a3 bt101.1 bt101.2 bt105.1 bt105.2.1 bt105.2.2.1 bt105.2.2.2 true)) else (dragomanlaw16_KscParts.j0 k a0 a1 a2 a3 bt101.1 bt101.2 bt105.1 bt105.2.1 bt105.2.2.1 bt105.2.2.2 true))) else (dragomanlaw16_KscParts.j0 k a0 a1 a2 a3 bt101.1 bt101.2 bt105.1 bt105.2.1 bt105.2.2.1 bt105.2.2.2 true)))))
theorem dragomanlaw16_KscParts.mono_l : ∀ k, (∀ y0 y1 y2 y3 y4 y5 y6 y7 y8 y9 y10, LeO (dragomanlaw16_KscParts.j0 k y0 y1 y2 y3 y4 y5 y6 y7 y8 y9 y10) (dragomanlaw16_KscParts.j0 (k + 1) y0 y1 y2 y3 y4 y5 y6 y7 y8 y9 y10))
  | 0 => fun _ _ _ _ _ _ _ _ _ _ _ r h => by simp [dragomanlaw16_KscParts.j0] at h
  | k + 1 => by
    have ih0 := dragomanlaw16_KscParts.mono_l k
    · intro y0 y1 y2 y3 y4 y5 y6 y7 y8 y9 y10
      unfold dragomanlaw16_KscParts.j0
      repeat' first
      | (with_reducible exact ih0 _ _ _ _ _ _ _ _ _ _ _)
      | (with_reducible exact LeO.refl _)
      | (with_reducible exact LeO.none _)
      | (with_reducible refine LeO.ite ?_ ?_)
      | (with_reducible refine LeO.bind ?_ (fun _ => ?_))
      | exact ih0 _ _ _ _ _ _ _ _ _ _ _
      | exact LeO.none _
      | refine LeO.ite ?_ ?_
      | refine LeO.bind ?_ (fun _ => ?_)
theorem dragomanlaw16_KscParts.mono : ∀ a0 a1 a2 a3 k, LeO (dragomanlaw16_KscParts.f k a0 a1 a2 a3) (dragomanlaw16_KscParts.f (k + 1) a0 a1 a2 a3) := by
  intro a0 a1 a2 a3 k
  have ih0 := dragomanlaw16_KscParts.mono_l k
  unfold dragomanlaw16_KscParts.f
  repeat' first
      | (with_reducible exact ih0 _ _ _ _ _ _ _ _ _ _ _)
      | (with_reducible exact LeO.refl _)
      | (with_reducible exact LeO.none _)
      | (with_reducible refine LeO.ite ?_ ?_)
      | (with_reducible refine LeO.bind ?_ (fun _ => ?_))
      | exact ih0 _ _ _ _ _ _ _ _ _ _ _
      | exact LeO.none _
      | refine LeO.ite ?_ ?_
      | refine LeO.bind ?_ (fun _ => ?_)
set_option maxHeartbeats 8000000 in
set_option maxRecDepth 100000 in
theorem dragomanlaw16_KscParts.calls (k : Nat) (a0 : Int) (a1 : Int) (a2 : Int) (a3 : Int) (r : Bool) (w : World) (h : dragomanlaw16_KscParts.f k a0 a1 a2 a3 = some r) :
    Calls Try.prog 3 #[.int .i64 a0, .int .i64 a1, .int .i64 a2, .int .i32 a3] w fun e w' => e = .returned (.bool r) ∧ Drawn0 w w' := by
  have H : ((ksc_Syllable.f a0 a1 a2).bind fun bt101 => ((dragomanref16_Syllable.f a0 a1 a2).bind fun bt103 => ((ksc_Parts.f a3).bind fun bt105 => ((dragomanref16_Parts.f a3).bind fun bt109 => (if bt101.1 = bt103.1 then (if (bt101.2 != bt103.2) = true then (dragomanlaw16_KscParts.j0 k a0 a1 a2 a3 bt101.1 bt101.2 bt105.1 bt105.2.1 bt105.2.2.1 bt105.2.2.2 true) else (if bt105.1 = bt109.1 then (if bt105.2.1 = bt109.2.1 then (if bt105.2.2.1 = bt109.2.2.1 then (dragomanlaw16_KscParts.j0 k a0 a1 a2 a3 bt101.1 bt101.2 bt105.1 bt105.2.1 bt105.2.2.1 bt105.2.2.2 (bt105.2.2.2 != bt109.2.2.2)) else (dragomanlaw16_KscParts.j0 k a0 a1 a2 a3 bt101.1 bt101.2 bt105.1 bt105.2.1 bt105.2.2.1 bt105.2.2.2 true)) else (dragomanlaw16_KscParts.j0 k a0 a1 a2 a3 bt101.1 bt101.2 bt105.1 bt105.2.1 bt105.2.2.1 bt105.2.2.2 true)) else (dragomanlaw16_KscParts.j0 k a0 a1 a2 a3 bt101.1 bt101.2 bt105.1 bt105.2.1 bt105.2.2.1 bt105.2.2.2 true))) else (dragomanlaw16_KscParts.j0 k a0 a1 a2 a3 bt101.1 bt101.2 bt105.1 bt105.2.1 bt105.2.2.1 bt105.2.2.2 true)))))) = some r := h
  clear h
  replace H := Option.bind_eq_some_iff.mp H
  obtain ⟨⟨t101, t102⟩, A50, H⟩ := H
  replace H : ((dragomanref16_Syllable.f a0 a1 a2).bind fun bt103 => ((ksc_Parts.f a3).bind fun bt105 => ((dragomanref16_Parts.f a3).bind fun bt109 => (if t101 = bt103.1 then (if (t102 != bt103.2) = true then (dragomanlaw16_KscParts.j0 k a0 a1 a2 a3 t101 t102 bt105.1 bt105.2.1 bt105.2.2.1 bt105.2.2.2 true) else (if bt105.1 = bt109.1 then (if bt105.2.1 = bt109.2.1 then (if bt105.2.2.1 = bt109.2.2.1 then (dragomanlaw16_KscParts.j0 k a0 a1 a2 a3 t101 t102 bt105.1 bt105.2.1 bt105.2.2.1 bt105.2.2.2 (bt105.2.2.2 != bt109.2.2.2)) else (dragomanlaw16_KscParts.j0 k a0 a1 a2 a3 t101 t102 bt105.1 bt105.2.1 bt105.2.2.1 bt105.2.2.2 true)) else (dragomanlaw16_KscParts.j0 k a0 a1 a2 a3 t101 t102 bt105.1 bt105.2.1 bt105.2.2.1 bt105.2.2.2 true)) else (dragomanlaw16_KscParts.j0 k a0 a1 a2 a3 t101 t102 bt105.1 bt105.2.1 bt105.2.2.1 bt105.2.2.2 true))) else (dragomanlaw16_KscParts.j0 k a0 a1 a2 a3 t101 t102 bt105.1 bt105.2.1 bt105.2.2.1 bt105.2.2.2 true))))) = some r := H
  have A5 := Aside0.mk A50
  clear A50
  replace H := Option.bind_eq_some_iff.mp H
  obtain ⟨⟨t103, t104⟩, A60, H⟩ := H
  replace H : ((ksc_Parts.f a3).bind fun bt105 => ((dragomanref16_Parts.f a3).bind fun bt109 => (if t101 = t103 then (if (t102 != t104) = true then (dragomanlaw16_KscParts.j0 k a0 a1 a2 a3 t101 t102 bt105.1 bt105.2.1 bt105.2.2.1 bt105.2.2.2 true) else (if bt105.1 = bt109.1 then (if bt105.2.1 = bt109.2.1 then (if bt105.2.2.1 = bt109.2.2.1 then (dragomanlaw16_KscParts.j0 k a0 a1 a2 a3 t101 t102 bt105.1 bt105.2.1 bt105.2.2.1 bt105.2.2.2 (bt105.2.2.2 != bt109.2.2.2)) else (dragomanlaw16_KscParts.j0 k a0 a1 a2 a3 t101 t102 bt105.1 bt105.2.1 bt105.2.2.1 bt105.2.2.2 true)) else (dragomanlaw16_KscParts.j0 k a0 a1 a2 a3 t101 t102 bt105.1 bt105.2.1 bt105.2.2.1 bt105.2.2.2 true)) else (dragomanlaw16_KscParts.j0 k a0 a1 a2 a3 t101 t102 bt105.1 bt105.2.1 bt105.2.2.1 bt105.2.2.2 true))) else (dragomanlaw16_KscParts.j0 k a0 a1 a2 a3 t101 t102 bt105.1 bt105.2.1 bt105.2.2.1 bt105.2.2.2 true)))) = some r := H
  have A6 := Aside0.mk A60
  clear A60
  replace H := Option.bind_eq_some_iff.mp H
  obtain ⟨⟨t105, t106, t107, t108⟩, A70, H⟩ := H
  replace H : ((dragomanref16_Parts.f a3).bind fun bt109 => (if t101 = t103 then (if (t102 != t104) = true then (dragomanlaw16_KscParts.j0 k a0 a1 a2 a3 t101 t102 t105 t106 t107 t108 true) else (if t105 = bt109.1 then (if t106 = bt109.2.1 then (if t107 = bt109.2.2.1 then (dragomanlaw16_KscParts.j0 k a0 a1 a2 a3 t101 t102 t105 t106 t107 t108 (t108 != bt109.2.2.2)) else (dragomanlaw16_KscParts.j0 k a0 a1 a2 a3 t101 t102 t105 t106 t107 t108 true)) else (dragomanlaw16_KscParts.j0 k a0 a1 a2 a3 t101 t102 t105 t106 t107 t108 true)) else (dragomanlaw16_KscParts.j0 k a0 a1 a2 a3 t101 t102 t105 t106 t107 t108 true))) else (dragomanlaw16_KscParts.j0 k a0 a1 a2 a3 t101 t102 t105 t106 t107 t108 true))) = some r := H
  have A7 := Aside0.mk A70
  clear A70
  replace H := Option.bind_eq_some_iff.mp H
  obtain ⟨⟨t109, t110, t111, t112⟩, A80, H⟩ := H
  replace H : (if t101 = t103 then (if (t102 != t104) = true then (dragomanlaw16_KscParts.j0 k a0 a1 a2 a3 t101 t102 t105 t106 t107 t108 true) else (if t105 = t109 then (if t106 = t110 then (if t107 = t111 then (dragomanlaw16_KscParts.j0 k a0 a1 a2 a3 t101 t102 t105 t106 t107 t108 (t108 != t112)) else (dragomanlaw16_KscParts.j0 k a0 a1 a2 a3 t101 t102 t105 t106 t107 t108 true)) else (dragomanlaw16_KscParts.j0 k a0 a1 a2 a3 t101 t102 t105 t106 t107 t108 true)) else (dragomanlaw16_KscParts.j0 k a0 a1 a2 a3 t101 t102 t105 t106 t107 t108 true))) else (dragomanlaw16_KscParts.j0 k a0 a1 a2 a3 t101 t102 t105 t106 t107 t108 true)) = some r := H
  have A8 := Aside0.mk A80
  clear A80
  have HC9 := Aside0.mk H
  clear H
  go_enter Try.func3, Try.ntmps3
  go_upto_region 5 with (first | ((with_reducible refine gate_callee (f := 11) rfl ?_); refine goesL_ (some 31) rfl rfl Try.func11 (by kernel_rfl) rfl #[.int .i64 a0, .int .i64 a1, .int .i64 a2] rfl (by (try simp only [List.map_toArray, List.map_cons, List.map_nil]); first | done | rfl | (simp only [List.length_drop, List.length_take]; rfl)) ?_; (with_reducible refine (ksc_Syllable.calls a0 a1 a2 t101 t102 _ A5.out).mono ?_); rintro e w' ⟨rfl, ⟨nd, rfl⟩⟩; refine ⟨_, rfl, ?_⟩) | ((with_reducible refine gate_callee (f := 12) rfl ?_); refine goesL_ (some 38) rfl rfl Try.func12 (by kernel_rfl) rfl #[.int .i64 a0, .int .i64 a1, .int .i64 a2] rfl (by (try simp only [List.map_toArray, List.map_cons, List.map_nil]); first | done | rfl | (simp only [List.length_drop, List.length_take]; rfl)) ?_; (with_reducible refine (dragomanref16_Syllable.calls a0 a1 a2 t103 t104 _ A6.out).mono ?_); rintro e w' ⟨rfl, ⟨nd, rfl⟩⟩; refine ⟨_, rfl, ?_⟩) | ((with_reducible refine gate_callee (f := 13) rfl ?_); refine goesL_ (some 43) rfl rfl Try.func13 (by kernel_rfl) rfl #[.int .i32 a3] rfl (by (try simp only [List.map_toArray, List.map_cons, List.map_nil]); first | done | rfl | (simp only [List.length_drop, List.length_take]; rfl)) ?_; (with_reducible refine (ksc_Parts.calls a3 t105 t106 t107 t108 _ A7.out).mono ?_); rintro e w' ⟨rfl, ⟨nd, rfl⟩⟩; refine ⟨_, rfl, ?_⟩) | ((with_reducible refine gate_callee (f := 14) rfl ?_); refine goesL_ (some 50) rfl rfl Try.func14 (by kernel_rfl) rfl #[.int .i32 a3] rfl (by (try simp only [List.map_toArray, List.map_cons, List.map_nil]); first | done | rfl | (simp only [List.length_drop, List.length_take]; rfl)) ?_; (with_reducible refine (dragomanref16_Parts.calls a3 t109 t110 t111 t112 _ A8.out).mono ?_); rintro e w' ⟨rfl, ⟨nd, rfl⟩⟩; refine ⟨_, rfl, ?_⟩))
  (try simp only [Act.put, List.setIfInBounds_toArray, List.set_cons_zero, List.set_cons_succ])
  go_cut [82] (fun v82 wc => ∃ (kq : Nat) (x82_8 : Bool), v82 = .bool x82_8 ∧ Aside0 (dragomanlaw16_KscParts.j0 kq a0 a1 a2 a3 t101 t102 t105 t106 t107 t108 x82_8 = some r) ∧ Aside0 (kq ≤ k) ∧ Drawn0 w wc)
  case first =>
    have H := HC9.out
    clear HC9
    by_cases c10 : t101 = t103
    · rw [if_pos c10] at H
      have c10b0 : (t101 == t103) = true := beq_iff_eq.mpr c10
      have c10b1 : (t101 != t103) = false := bne_eq_false_iff_eq.mpr c10
      clear c10
      (first | rw [c10b0] | (simp only [i64_w, i32_w]; rw [c10b0]) | skip)
      by_cases c11 : (t102 != t104) = true
      · rw [if_pos c11] at H
        have c11b0 : (t102 != t104) = true := c11
        (try (have c11b1 : decide (t102 = t104) = false := by simpa using c11))
        (try (have c11b2 : (t102 == t104) = false := by simpa using c11))
        (try (have c11b3 : ¬ (t102 = t104) := by simpa using c11))
        clear c11
        have H' := Aside0.mk H
        clear H
        go_wp2
        go_meet
        case rel => exact ⟨_, (true), (by first | rfl | (simp; done) | (simp [*]; done)), H', ⟨by first | omega | exact Nat.le_refl _⟩, by repeat (first | exact Drawn0.refl _ | apply Drawn0.step)⟩
      · rw [if_neg c11] at H
        have c11b0 : (t102 != t104) = false := by simpa using c11
        (try (have c11b1 : decide (t102 = t104) = true := by simpa using c11))
        (try (have c11b2 : (t102 == t104) = true := by simpa using c11))
        clear c11
        by_cases c12 : t105 = t109
        · rw [if_pos c12] at H
          have c12b0 : (t105 == t109) = true := beq_iff_eq.mpr c12
          have c12b1 : (t105 != t109) = false := bne_eq_false_iff_eq.mpr c12
          clear c12
          by_cases c13 : t106 = t110
          · rw [if_pos c13] at H
            have c13b0 : (t106 == t110) = true := beq_iff_eq.mpr c13
            have c13b1 : (t106 != t110) = false := bne_eq_false_iff_eq.mpr c13
            clear c13
            by_cases c14 : t107 = t111
            · rw [if_pos c14] at H
              have c14b0 : (t107 == t111) = true := beq_iff_eq.mpr c14
              have c14b1 : (t107 != t111) = false := bne_eq_false_iff_eq.mpr c14
              clear c14
              have H' := Aside0.mk H
              clear H
              go_wp2
              go_meet
              case rel => exact ⟨_, ((t108 != t112)), (by first | rfl | (simp; done) | (simp [*]; done)), H', ⟨by first | omega | exact Nat.le_refl _⟩, by repeat (first | exact Drawn0.refl _ | apply Drawn0.step)⟩
            · rw [if_neg c14] at H
              have c14b0 : (t107 == t111) = false := beq_eq_false_iff_ne.mpr c14
              have c14b1 : (t107 != t111) = true := bne_iff_ne.mpr c14
              have H' := Aside0.mk H
              clear H
              go_wp2
              go_meet
              case rel => exact ⟨_, (true), (by first | rfl | (simp; done) | (simp [*]; done)), H', ⟨by first | omega | exact Nat.le_refl _⟩, by repeat (first | exact Drawn0.refl _ | apply Drawn0.step)⟩
          · rw [if_neg c13] at H
            have c13b0 : (t106 == t110) = false := beq_eq_false_iff_ne.mpr c13
            have c13b1 : (t106 != t110) = true := bne_iff_ne.mpr c13
            have H' := Aside0.mk H
            clear H
            go_wp2
            go_meet
            case rel => exact ⟨_, (true), (by first | rfl | (simp; done) | (simp [*]; done)), H', ⟨by first | omega | exact Nat.le_refl _⟩, by repeat (first | exact Drawn0.refl _ | apply Drawn0.step)⟩
        · rw [if_neg c12] at H
          have c12b0 : (t105 == t109) = false := beq_eq_false_iff_ne.mpr c12
          have c12b1 : (t105 != t109) = true := bne_iff_ne.mpr c12
          have H' := Aside0.mk H
          clear H
          go_wp2
          go_meet
          case rel => exact ⟨_, (true), (by first | rfl | (simp; done) | (simp [*]; done)), H', ⟨by first | omega | exact Nat.le_refl _⟩, by repeat (first | exact Drawn0.refl _ | apply Drawn0.step)⟩
    · rw [if_neg c10] at H
      have c10b0 : (t101 == t103) = false := beq_eq_false_iff_ne.mpr c10
      have c10b1 : (t101 != t103) = true := bne_iff_ne.mpr c10
      (first | rw [c10b0] | (simp only [i64_w, i32_w]; rw [c10b0]) | skip)
      have H' := Aside0.mk H
      clear H
      go_wp2
      go_meet
      case rel => exact ⟨_, (true), (by first | rfl | (simp; done) | (simp [*]; done)), H', ⟨by first | omega | exact Nat.le_refl _⟩, by repeat (first | exact Drawn0.refl _ | apply Drawn0.step)⟩
  case rest =>
    clear HC9
    try clear c1
    try clear p2
    try clear c3
    try clear c10
    try clear c10b0
    try clear c10b1
    try clear c11
    try clear c11b0
    try clear c11b1
    try clear c11b2
    try clear c12
    try clear c12b0
    try clear c12b1
    try clear c13
    try clear c13b0
    try clear c13b1
    try clear c14
    try clear c14b0
    try clear c14b1
    obtain ⟨kq, x82_8, rfl, HA, HJ8, ⟨mc8, rfl⟩⟩ := hcut
    cases kq with
    | zero => exact absurd HA.out (by simp [dragomanlaw16_KscParts.j0])
    | succ kj8 =>
      have H := HA.out
      clear HA
      simp only [dragomanlaw16_KscParts.j0] at H
      by_cases c15 : x82_8 = true
      · subst c15
        have H1 : (some false) = some r := by rw [if_pos rfl] at H; exact H
        clear H
        have H := H1
        clear H1
        obtain rfl := Option.some.inj H
        go_wp2
        go_ret
        exact ⟨by first | rfl | (simp; done) | (simp [*]; done), by repeat (first | exact Drawn0.refl _ | apply Drawn0.step)⟩
      · replace c15 := Bool.eq_false_iff.mpr c15
        subst c15
        have H1 : (if t102 = true then ((ksc_Parts.f t101).bind fun bt113 => (if bt113.1 = a0 then (if bt113.2.1 = a1 then (if bt113.2.2.1 = a2 then (if bt113.2.2.2 = true then ((ksc_Syllable.f t105 t106 t107).bind fun bt117 => (if t108 = true then (if bt117.2 = true then (some (bt117.1 == a3)) else (some false)) else (some true))) else (some false)) else (some false)) else (some false)) else (some false))) else ((ksc_Syllable.f t105 t106 t107).bind fun bt119 => (if t108 = true then (if bt119.2 = true then (some (bt119.1 == a3)) else (some false)) else (some true)))) = some r := by rw [if_neg (show ¬ (false = true) by decide)] at H; exact H
        clear H
        have H := H1
        clear H1
        by_cases c16 : t102 = true
        · subst c16
          have H1 : ((ksc_Parts.f t101).bind fun bt113 => (if bt113.1 = a0 then (if bt113.2.1 = a1 then (if bt113.2.2.1 = a2 then (if bt113.2.2.2 = true then ((ksc_Syllable.f t105 t106 t107).bind fun bt117 => (if t108 = true then (if bt117.2 = true then (some (bt117.1 == a3)) else (some false)) else (some true))) else (some false)) else (some false)) else (some false)) else (some false))) = some r := by rw [if_pos rfl] at H; exact H
          clear H
          have H := H1
          clear H1
          replace H := Option.bind_eq_some_iff.mp H
          obtain ⟨⟨t113, t114, t115, t116⟩, A170, H⟩ := H
          replace H : (if t113 = a0 then (if t114 = a1 then (if t115 = a2 then (if t116 = true then ((ksc_Syllable.f t105 t106 t107).bind fun bt117 => (if t108 = true then (if bt117.2 = true then (some (bt117.1 == a3)) else (some false)) else (some true))) else (some false)) else (some false)) else (some false)) else (some false)) = some r := H
          have A17 := Aside0.mk A170
          clear A170
          by_cases c18 : t113 = a0
          · rw [if_pos c18] at H
            have c18b0 : (t113 == a0) = true := beq_iff_eq.mpr c18
            have c18b1 : (t113 != a0) = false := bne_eq_false_iff_eq.mpr c18
            clear c18
            by_cases c19 : t114 = a1
            · rw [if_pos c19] at H
              have c19b0 : (t114 == a1) = true := beq_iff_eq.mpr c19
              have c19b1 : (t114 != a1) = false := bne_eq_false_iff_eq.mpr c19
              clear c19
              by_cases c20 : t115 = a2
              · rw [if_pos c20] at H
                have c20b0 : (t115 == a2) = true := beq_iff_eq.mpr c20
                have c20b1 : (t115 != a2) = false := bne_eq_false_iff_eq.mpr c20
                clear c20
                by_cases c21 : t116 = true
                · subst c21
                  have H1 : ((ksc_Syllable.f t105 t106 t107).bind fun bt117 => (if t108 = true then (if bt117.2 = true then (some (bt117.1 == a3)) else (some false)) else (some true))) = some r := by rw [if_pos rfl] at H; exact H
                  clear H
                  have H := H1
                  clear H1
                  replace H := Option.bind_eq_some_iff.mp H
                  obtain ⟨⟨t117, t118⟩, A220, H⟩ := H
                  replace H : (if t108 = true then (if t118 = true then (some (t117 == a3)) else (some false)) else (some true)) = some r := H
                  have A22 := Aside0.mk A220
                  clear A220
                  by_cases c23 : t108 = true
                  · subst c23
                    have H1 : (if t118 = true then (some (t117 == a3)) else (some false)) = some r := by rw [if_pos rfl] at H; exact H
                    clear H
                    have H := H1
                    clear H1
                    by_cases c24 : t118 = true
                    · subst c24
                      have H1 : (some (t117 == a3)) = some r := by rw [if_pos rfl] at H; exact H
                      clear H
                      have H := H1
                      clear H1
                      obtain rfl := Option.some.inj H
                      go_wp2_with (first | ((with_reducible refine gate_callee (f := 13) rfl ?_); refine goesL_ (some 86) rfl rfl Try.func13 (by kernel_rfl) rfl #[.int .i32 t101] rfl (by (try simp only [List.map_toArray, List.map_cons, List.map_nil]); first | done | rfl | (simp only [List.length_drop, List.length_take]; rfl)) ?_; (with_reducible refine (ksc_Parts.calls t101 t113 t114 t115 true _ A17.out).mono ?_); rintro e w' ⟨rfl, ⟨nd, rfl⟩⟩; refine ⟨_, rfl, ?_⟩) | ((with_reducible refine gate_callee (f := 11) rfl ?_); refine goesL_ (some 112) rfl rfl Try.func11 (by kernel_rfl) rfl #[.int .i64 t105, .int .i64 t106, .int .i64 t107] rfl (by (try simp only [List.map_toArray, List.map_cons, List.map_nil]); first | done | rfl | (simp only [List.length_drop, List.length_take]; rfl)) ?_; (with_reducible refine (ksc_Syllable.calls t105 t106 t107 t117 true _ A22.out).mono ?_); rintro e w' ⟨rfl, ⟨nd, rfl⟩⟩; refine ⟨_, rfl, ?_⟩))
                      go_ret
                      exact ⟨by first | rfl | (simp; done) | (simp [*]; done), by repeat (first | exact Drawn0.refl _ | apply Drawn0.step)⟩
                    · replace c24 := Bool.eq_false_iff.mpr c24
                      subst c24
                      have H1 : (some false) = some r := by rw [if_neg (show ¬ (false = true) by decide)] at H; exact H
                      clear H
                      have H := H1
                      clear H1
                      obtain rfl := Option.some.inj H
                      go_wp2_with (first | ((with_reducible refine gate_callee (f := 13) rfl ?_); refine goesL_ (some 86) rfl rfl Try.func13 (by kernel_rfl) rfl #[.int .i32 t101] rfl (by (try simp only [List.map_toArray, List.map_cons, List.map_nil]); first | done | rfl | (simp only [List.length_drop, List.length_take]; rfl)) ?_; (with_reducible refine (ksc_Parts.calls t101 t113 t114 t115 true _ A17.out).mono ?_); rintro e w' ⟨rfl, ⟨nd, rfl⟩⟩; refine ⟨_, rfl, ?_⟩) | ((with_reducible refine gate_callee (f := 11) rfl ?_); refine goesL_ (some 112) rfl rfl Try.func11 (by kernel_rfl) rfl #[.int .i64 t105, .int .i64 t106, .int .i64 t107] rfl (by (try simp only [List.map_toArray, List.map_cons, List.map_nil]); first | done | rfl | (simp only [List.length_drop, List.length_take]; rfl)) ?_; (with_reducible refine (ksc_Syllable.calls t105 t106 t107 t117 false _ A22.out).mono ?_); rintro e w' ⟨rfl, ⟨nd, rfl⟩⟩; refine ⟨_, rfl, ?_⟩))
                      go_ret
                      exact ⟨by first | rfl | (simp; done) | (simp [*]; done), by repeat (first | exact Drawn0.refl _ | apply Drawn0.step)⟩
                  · replace c23 := Bool.eq_false_iff.mpr c23
                    subst c23
                    have H1 : (some true) = some r := by rw [if_neg (show ¬ (false = true) by decide)] at H; exact H
                    clear H
                    have H := H1
                    clear H1
                    obtain rfl := Option.some.inj H
                    go_wp2_with (first | ((with_reducible refine gate_callee (f := 13) rfl ?_); refine goesL_ (some 86) rfl rfl Try.func13 (by kernel_rfl) rfl #[.int .i32 t101] rfl (by (try simp only [List.map_toArray, List.map_cons, List.map_nil]); first | done | rfl | (simp only [List.length_drop, List.length_take]; rfl)) ?_; (with_reducible refine (ksc_Parts.calls t101 t113 t114 t115 true _ A17.out).mono ?_); rintro e w' ⟨rfl, ⟨nd, rfl⟩⟩; refine ⟨_, rfl, ?_⟩) | ((with_reducible refine gate_callee (f := 11) rfl ?_); refine goesL_ (some 112) rfl rfl Try.func11 (by kernel_rfl) rfl #[.int .i64 t105, .int .i64 t106, .int .i64 t107] rfl (by (try simp only [List.map_toArray, List.map_cons, List.map_nil]); first | done | rfl | (simp only [List.length_drop, List.length_take]; rfl)) ?_; (with_reducible refine (ksc_Syllable.calls t105 t106 t107 t117 t118 _ A22.out).mono ?_); rintro e w' ⟨rfl, ⟨nd, rfl⟩⟩; refine ⟨_, rfl, ?_⟩))
                    go_ret
                    exact ⟨by first | rfl | (simp; done) | (simp [*]; done), by repeat (first | exact Drawn0.refl _ | apply Drawn0.step)⟩
                · replace c21 := Bool.eq_false_iff.mpr c21
                  subst c21
                  have H1 : (some false) = some r := by rw [if_neg (show ¬ (false = true) by decide)] at H; exact H
                  clear H
                  have H := H1
                  clear H1
                  obtain rfl := Option.some.inj H
                  go_wp2_with (first | ((with_reducible refine gate_callee (f := 13) rfl ?_); refine goesL_ (some 86) rfl rfl Try.func13 (by kernel_rfl) rfl #[.int .i32 t101] rfl (by (try simp only [List.map_toArray, List.map_cons, List.map_nil]); first | done | rfl | (simp only [List.length_drop, List.length_take]; rfl)) ?_; (with_reducible refine (ksc_Parts.calls t101 t113 t114 t115 false _ A17.out).mono ?_); rintro e w' ⟨rfl, ⟨nd, rfl⟩⟩; refine ⟨_, rfl, ?_⟩))
                  go_ret
                  exact ⟨by first | rfl | (simp; done) | (simp [*]; done), by repeat (first | exact Drawn0.refl _ | apply Drawn0.step)⟩
              · rw [if_neg c20] at H
                have c20b0 : (t115 == a2) = false := beq_eq_false_iff_ne.mpr c20
                have c20b1 : (t115 != a2) = true := bne_iff_ne.mpr c20
                obtain rfl := Option.some.inj H
                go_wp2_with (first | ((with_reducible refine gate_callee (f := 13) rfl ?_); refine goesL_ (some 86) rfl rfl Try.func13 (by kernel_rfl) rfl #[.int .i32 t101] rfl (by (try simp only [List.map_toArray, List.map_cons, List.map_nil]); first | done | rfl | (simp only [List.length_drop, List.length_take]; rfl)) ?_; (with_reducible refine (ksc_Parts.calls t101 t113 t114 t115 t116 _ A17.out).mono ?_); rintro e w' ⟨rfl, ⟨nd, rfl⟩⟩; refine ⟨_, rfl, ?_⟩))
                go_ret
                exact ⟨by first | rfl | (simp; done) | (simp [*]; done), by repeat (first | exact Drawn0.refl _ | apply Drawn0.step)⟩
            · rw [if_neg c19] at H
              have c19b0 : (t114 == a1) = false := beq_eq_false_iff_ne.mpr c19
              have c19b1 : (t114 != a1) = true := bne_iff_ne.mpr c19
              obtain rfl := Option.some.inj H
              go_wp2_with (first | ((with_reducible refine gate_callee (f := 13) rfl ?_); refine goesL_ (some 86) rfl rfl Try.func13 (by kernel_rfl) rfl #[.int .i32 t101] rfl (by (try simp only [List.map_toArray, List.map_cons, List.map_nil]); first | done | rfl | (simp only [List.length_drop, List.length_take]; rfl)) ?_; (with_reducible refine (ksc_Parts.calls t101 t113 t114 t115 t116 _ A17.out).mono ?_); rintro e w' ⟨rfl, ⟨nd, rfl⟩⟩; refine ⟨_, rfl, ?_⟩))
              go_ret
              exact ⟨by first | rfl | (simp; done) | (simp [*]; done), by repeat (first | exact Drawn0.refl _ | apply Drawn0.step)⟩
          · rw [if_neg c18] at H
            have c18b0 : (t113 == a0) = false := beq_eq_false_iff_ne.mpr c18
            have c18b1 : (t113 != a0) = true := bne_iff_ne.mpr c18
            obtain rfl := Option.some.inj H
            go_wp2_with (first | ((with_reducible refine gate_callee (f := 13) rfl ?_); refine goesL_ (some 86) rfl rfl Try.func13 (by kernel_rfl) rfl #[.int .i32 t101] rfl (by (try simp only [List.map_toArray, List.map_cons, List.map_nil]); first | done | rfl | (simp only [List.length_drop, List.length_take]; rfl)) ?_; (with_reducible refine (ksc_Parts.calls t101 t113 t114 t115 t116 _ A17.out).mono ?_); rintro e w' ⟨rfl, ⟨nd, rfl⟩⟩; refine ⟨_, rfl, ?_⟩))
            go_ret
            exact ⟨by first | rfl | (simp; done) | (simp [*]; done), by repeat (first | exact Drawn0.refl _ | apply Drawn0.step)⟩
        · replace c16 := Bool.eq_false_iff.mpr c16
          subst c16
          have H1 : ((ksc_Syllable.f t105 t106 t107).bind fun bt119 => (if t108 = true then (if bt119.2 = true then (some (bt119.1 == a3)) else (some false)) else (some true))) = some r := by rw [if_neg (show ¬ (false = true) by decide)] at H; exact H
          clear H
          have H := H1
          clear H1
          replace H := Option.bind_eq_some_iff.mp H
          obtain ⟨⟨t119, t120⟩, A250, H⟩ := H
          replace H : (if t108 = true then (if t120 = true then (some (t119 == a3)) else (some false)) else (some true)) = some r := H
          have A25 := Aside0.mk A250
          clear A250
          by_cases c26 : t108 = true
          · subst c26
            have H1 : (if t120 = true then (some (t119 == a3)) else (some false)) = some r := by rw [if_pos rfl] at H; exact H
            clear H
            have H := H1
            clear H1
            by_cases c27 : t120 = true
            · subst c27
              have H1 : (some (t119 == a3)) = some r := by rw [if_pos rfl] at H; exact H
              clear H
              have H := H1
              clear H1
              obtain rfl := Option.some.inj H
              go_wp2_with (first | ((with_reducible refine gate_callee (f := 11) rfl ?_); refine goesL_ (some 112) rfl rfl Try.func11 (by kernel_rfl) rfl #[.int .i64 t105, .int .i64 t106, .int .i64 t107] rfl (by (try simp only [List.map_toArray, List.map_cons, List.map_nil]); first | done | rfl | (simp only [List.length_drop, List.length_take]; rfl)) ?_; (with_reducible refine (ksc_Syllable.calls t105 t106 t107 t119 true _ A25.out).mono ?_); rintro e w' ⟨rfl, ⟨nd, rfl⟩⟩; refine ⟨_, rfl, ?_⟩))
              go_ret
              exact ⟨by first | rfl | (simp; done) | (simp [*]; done), by repeat (first | exact Drawn0.refl _ | apply Drawn0.step)⟩
            · replace c27 := Bool.eq_false_iff.mpr c27
              subst c27
              have H1 : (some false) = some r := by rw [if_neg (show ¬ (false = true) by decide)] at H; exact H
              clear H
              have H := H1
              clear H1
              obtain rfl := Option.some.inj H
              go_wp2_with (first | ((with_reducible refine gate_callee (f := 11) rfl ?_); refine goesL_ (some 112) rfl rfl Try.func11 (by kernel_rfl) rfl #[.int .i64 t105, .int .i64 t106, .int .i64 t107] rfl (by (try simp only [List.map_toArray, List.map_cons, List.map_nil]); first | done | rfl | (simp only [List.length_drop, List.length_take]; rfl)) ?_; (with_reducible refine (ksc_Syllable.calls t105 t106 t107 t119 false _ A25.out).mono ?_); rintro e w' ⟨rfl, ⟨nd, rfl⟩⟩; refine ⟨_, rfl, ?_⟩))
              go_ret
              exact ⟨by first | rfl | (simp; done) | (simp [*]; done), by repeat (first | exact Drawn0.refl _ | apply Drawn0.step)⟩
          · replace c26 := Bool.eq_false_iff.mpr c26
            subst c26
            have H1 : (some true) = some r := by rw [if_neg (show ¬ (false = true) by decide)] at H; exact H
            clear H
            have H := H1
            clear H1
            obtain rfl := Option.some.inj H
            go_wp2_with (first | ((with_reducible refine gate_callee (f := 11) rfl ?_); refine goesL_ (some 112) rfl rfl Try.func11 (by kernel_rfl) rfl #[.int .i64 t105, .int .i64 t106, .int .i64 t107] rfl (by (try simp only [List.map_toArray, List.map_cons, List.map_nil]); first | done | rfl | (simp only [List.length_drop, List.length_take]; rfl)) ?_; (with_reducible refine (ksc_Syllable.calls t105 t106 t107 t119 t120 _ A25.out).mono ?_); rintro e w' ⟨rfl, ⟨nd, rfl⟩⟩; refine ⟨_, rfl, ?_⟩))
            go_ret
            exact ⟨by first | rfl | (simp; done) | (simp [*]; done), by repeat (first | exact Drawn0.refl _ | apply Drawn0.step)⟩

/-- THE ONE PURE STATEMENT of dragomanlaw16_KscParts: yours. -/
def dragomanlaw16_KscParts.Pure : Prop := ∀ (a0 : Int) (a1 : Int) (a2 : Int) (a3 : Int), (Lit.int .i64 a0).wf = true → (Lit.int .i64 a1).wf = true → (Lit.int .i64 a2).wf = true → (Lit.int .i32 a3).wf = true → ∃ k, dragomanlaw16_KscParts.f k a0 a1 a2 a3 = some true
theorem dragomanlaw16_KscParts.walk (P : dragomanlaw16_KscParts.Pure) (a0 : Int) (a1 : Int) (a2 : Int) (a3 : Int) (w : World) (w0 : (Lit.int .i64 a0).wf = true) (w1 : (Lit.int .i64 a1).wf = true) (w2 : (Lit.int .i64 a2).wf = true) (w3 : (Lit.int .i32 a3).wf = true) :
    Calls Try.prog 3 #[.int .i64 a0, .int .i64 a1, .int .i64 a2, .int .i32 a3] w fun e w' => e = .returned (.bool true) ∧ Below w.heap.size w w' := by
  obtain ⟨k, h⟩ := P a0 a1 a2 a3 w0 w1 w2 w3
  refine (dragomanlaw16_KscParts.calls k a0 a1 a2 a3 true w h).mono ?_
  rintro e w' ⟨rfl, hd⟩
  exact ⟨rfl, hd.below⟩

end Go.Proofs.Ytadhfojgifhjcaa.PKscParts
