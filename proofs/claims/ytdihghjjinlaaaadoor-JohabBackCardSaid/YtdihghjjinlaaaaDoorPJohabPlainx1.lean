-- PRINTED BY print.sh 35421559b90ae4d0a3588c463048766b98c2df88dd9212a6774a882060cdf62d: not written by this session
import Derived.Test.YtdihghjjinlaaaaDoorPJohabPlainx0
namespace Go.Proofs.YtdihghjjinlaaaaDoor.PJohabPlain
open Go.RowKit Go.Proofs.YtdihghjjinlaaaaDoorW.PrintWords Go.Proofs.YtdihghjjinlaaaaDoorW.PrintLast Go.Proofs.YtdihghjjinlaaaaDoorW.PrintMore
attribute [local go_sem] max2_int min2_int max_two min_two max_three min_three max_four min_four   -- for this text's walks alone
set_option linter.unusedVariables false
set_option linter.unusedSimpArgs false

/-! ### ksc_Syllable: function 18 -/
def ksc_Syllable.f (a0 : Int) (a1 : Int) (a2 : Int) : Option (Int × Bool) := if a0 < 0 then (some (0, false)) else (if a0 ≥ 19 then (some (0, false)) else (if a1 < 0 then (some (0, false)) else (if a1 ≥ 21 then (some (0, false)) else (if a2 < 0 then (some (0, false)) else (if a2 ≥ 28 then (some (0, false)) else (some (wrap32 (wrap64 ((wrap64 (44032 + (wrap64 ((wrap64 ((wrap64 (a0 * 21)) + a1)) * 28)))) + a2)), true)))))))
set_option maxHeartbeats 8000000 in
set_option maxRecDepth 100000 in
theorem ksc_Syllable.calls (a0 : Int) (a1 : Int) (a2 : Int) (r1 : Int) (r2 : Bool) (w : World) (h : ksc_Syllable.f a0 a1 a2 = some (r1, r2)) :
    Calls Tryd.prog 18 #[.int .i64 a0, .int .i64 a1, .int .i64 a2] w fun e w' => e = .returned (.tuple #[.int .i32 r1, .bool r2]) ∧ Drawn0 w w' := by
  have H : (if a0 < 0 then (some (0, false)) else (if a0 ≥ 19 then (some (0, false)) else (if a1 < 0 then (some (0, false)) else (if a1 ≥ 21 then (some (0, false)) else (if a2 < 0 then (some (0, false)) else (if a2 ≥ 28 then (some (0, false)) else (some (wrap32 (wrap64 ((wrap64 (44032 + (wrap64 ((wrap64 ((wrap64 (a0 * 21)) + a1)) * 28)))) + a2)), true)))))))) = some (r1, r2) := h
  clear h
  by_cases c4 : a0 < 0
  · rw [if_pos c4] at H
    have c4b0 : decide (a0 < 0) = true := decide_eq_true c4
    clear c4
    simp only [Option.some.injEq, Prod.mk.injEq] at H
    obtain ⟨rfl, rfl⟩ := H
    go_enter Tryd.func18, Tryd.ntmps18
    go_wp2
    go_ret2
    exact ⟨by first | rfl | (simp; done) | (simp [*]; done), by repeat (first | exact Drawn0.refl _ | apply Drawn0.step)⟩
  · rw [if_neg c4] at H
    have c4b0 : decide (a0 < 0) = false := decide_eq_false c4
    clear c4
    by_cases c5 : a0 ≥ 19
    · rw [if_pos c5] at H
      have c5b0 : decide (19 ≤ a0) = true := decide_eq_true c5
      clear c5
      simp only [Option.some.injEq, Prod.mk.injEq] at H
      obtain ⟨rfl, rfl⟩ := H
      go_enter Tryd.func18, Tryd.ntmps18
      go_wp2
      go_ret2
      exact ⟨by first | rfl | (simp; done) | (simp [*]; done), by repeat (first | exact Drawn0.refl _ | apply Drawn0.step)⟩
    · rw [if_neg c5] at H
      have c5b0 : decide (19 ≤ a0) = false := decide_eq_false c5
      clear c5
      by_cases c6 : a1 < 0
      · rw [if_pos c6] at H
        have c6b0 : decide (a1 < 0) = true := decide_eq_true c6
        clear c6
        simp only [Option.some.injEq, Prod.mk.injEq] at H
        obtain ⟨rfl, rfl⟩ := H
        go_enter Tryd.func18, Tryd.ntmps18
        go_wp2
        go_ret2
        exact ⟨by first | rfl | (simp; done) | (simp [*]; done), by repeat (first | exact Drawn0.refl _ | apply Drawn0.step)⟩
      · rw [if_neg c6] at H
        have c6b0 : decide (a1 < 0) = false := decide_eq_false c6
        clear c6
        by_cases c7 : a1 ≥ 21
        · rw [if_pos c7] at H
          have c7b0 : decide (21 ≤ a1) = true := decide_eq_true c7
          clear c7
          simp only [Option.some.injEq, Prod.mk.injEq] at H
          obtain ⟨rfl, rfl⟩ := H
          go_enter Tryd.func18, Tryd.ntmps18
          go_wp2
          go_ret2
          exact ⟨by first | rfl | (simp; done) | (simp [*]; done), by repeat (first | exact Drawn0.refl _ | apply Drawn0.step)⟩
        · rw [if_neg c7] at H
          have c7b0 : decide (21 ≤ a1) = false := decide_eq_false c7
          clear c7
          by_cases c8 : a2 < 0
          · rw [if_pos c8] at H
            have c8b0 : decide (a2 < 0) = true := decide_eq_true c8
            clear c8
            simp only [Option.some.injEq, Prod.mk.injEq] at H
            obtain ⟨rfl, rfl⟩ := H
            go_enter Tryd.func18, Tryd.ntmps18
            go_wp2
            go_ret2
            exact ⟨by first | rfl | (simp; done) | (simp [*]; done), by repeat (first | exact Drawn0.refl _ | apply Drawn0.step)⟩
          · rw [if_neg c8] at H
            have c8b0 : decide (a2 < 0) = false := decide_eq_false c8
            clear c8
            by_cases c9 : a2 ≥ 28
            · rw [if_pos c9] at H
              have c9b0 : decide (28 ≤ a2) = true := decide_eq_true c9
              clear c9
              simp only [Option.some.injEq, Prod.mk.injEq] at H
              obtain ⟨rfl, rfl⟩ := H
              go_enter Tryd.func18, Tryd.ntmps18
              go_wp2
              go_ret2
              exact ⟨by first | rfl | (simp; done) | (simp [*]; done), by repeat (first | exact Drawn0.refl _ | apply Drawn0.step)⟩
            · rw [if_neg c9] at H
              have c9b0 : decide (28 ≤ a2) = false := decide_eq_false c9
              clear c9
              simp only [Option.some.injEq, Prod.mk.injEq] at H
              obtain ⟨rfl, rfl⟩ := H
              go_enter Tryd.func18, Tryd.ntmps18
              go_wp2
              go_ret2
              exact ⟨by first | rfl | (simp; done) | (simp [*]; done), by repeat (first | exact Drawn0.refl _ | apply Drawn0.step)⟩

-- NOT PRINTED: function 9 (johab_Pack)

/-! ### ksc_Parts: function 24 -/
def ksc_Parts.f (a0 : Int) : Option (Int × Int × Int × Bool) := if (wrap64 ((wrap64 (a0)) - 44032)) < 0 then (some (0, 0, 0, false)) else (if (wrap64 ((wrap64 (a0)) - 44032)) ≥ 11172 then (some (0, 0, 0, false)) else (some (wrap64 (Int.tdiv (wrap64 (Int.tdiv (wrap64 ((wrap64 (a0)) - 44032)) 28)) 21), Int.tmod (wrap64 (Int.tdiv (wrap64 ((wrap64 (a0)) - 44032)) 28)) 21, Int.tmod (wrap64 ((wrap64 (a0)) - 44032)) 28, true)))
set_option maxHeartbeats 8000000 in
set_option maxRecDepth 100000 in
theorem ksc_Parts.calls (a0 : Int) (r1 : Int) (r2 : Int) (r3 : Int) (r4 : Bool) (w : World) (h : ksc_Parts.f a0 = some (r1, r2, r3, r4)) :
    Calls Tryd.prog 24 #[.int .i32 a0] w fun e w' => e = .returned (.tuple #[.int .i64 r1, .int .i64 r2, .int .i64 r3, .bool r4]) ∧ Drawn0 w w' := by
  have H : (if (wrap64 ((wrap64 (a0)) - 44032)) < 0 then (some (0, 0, 0, false)) else (if (wrap64 ((wrap64 (a0)) - 44032)) ≥ 11172 then (some (0, 0, 0, false)) else (some (wrap64 (Int.tdiv (wrap64 (Int.tdiv (wrap64 ((wrap64 (a0)) - 44032)) 28)) 21), Int.tmod (wrap64 (Int.tdiv (wrap64 ((wrap64 (a0)) - 44032)) 28)) 21, Int.tmod (wrap64 ((wrap64 (a0)) - 44032)) 28, true)))) = some (r1, r2, r3, r4) := h
  clear h
  by_cases c2 : (wrap64 ((wrap64 (a0)) - 44032)) < 0
  · rw [if_pos c2] at H
    have c2b0 : decide ((wrap64 ((wrap64 (a0)) - 44032)) < 0) = true := decide_eq_true c2
    clear c2
    simp only [Option.some.injEq, Prod.mk.injEq] at H
    obtain ⟨rfl, rfl, rfl, rfl⟩ := H
    go_enter Tryd.func24, Tryd.ntmps24
    go_wp2
    refine bodyPost_ret (results_list (rs := [.tmp 2, .tmp 3, .tmp 4, .tmp 5]) rfl (by simp) (.tmp (.tmp (.tmp (.tmp .nil))))) rfl ?_
    exact ⟨by first | rfl | (simp; done) | (simp [*]; done), by repeat (first | exact Drawn0.refl _ | apply Drawn0.step)⟩
  · rw [if_neg c2] at H
    have c2b0 : decide ((wrap64 ((wrap64 (a0)) - 44032)) < 0) = false := decide_eq_false c2
    clear c2
    by_cases c3 : (wrap64 ((wrap64 (a0)) - 44032)) ≥ 11172
    · rw [if_pos c3] at H
      have c3b0 : decide (11172 ≤ (wrap64 ((wrap64 (a0)) - 44032))) = true := decide_eq_true c3
      clear c3
      simp only [Option.some.injEq, Prod.mk.injEq] at H
      obtain ⟨rfl, rfl, rfl, rfl⟩ := H
      go_enter Tryd.func24, Tryd.ntmps24
      go_wp2
      refine bodyPost_ret (results_list (rs := [.tmp 2, .tmp 3, .tmp 4, .tmp 5]) rfl (by simp) (.tmp (.tmp (.tmp (.tmp .nil))))) rfl ?_
      exact ⟨by first | rfl | (simp; done) | (simp [*]; done), by repeat (first | exact Drawn0.refl _ | apply Drawn0.step)⟩
    · rw [if_neg c3] at H
      have c3b0 : decide (11172 ≤ (wrap64 ((wrap64 (a0)) - 44032))) = false := decide_eq_false c3
      clear c3
      simp only [Option.some.injEq, Prod.mk.injEq] at H
      obtain ⟨rfl, rfl, rfl, rfl⟩ := H
      go_enter Tryd.func24, Tryd.ntmps24
      go_wp2
      refine bodyPost_ret (results_list (rs := [.tmp 2, .tmp 3, .tmp 4, .tmp 5]) rfl (by simp) (.tmp (.tmp (.tmp (.tmp .nil))))) rfl ?_
      exact ⟨by first | rfl | (simp; done) | (simp [*]; done), by repeat (first | exact Drawn0.refl _ | apply Drawn0.step)⟩

-- NOT PRINTED: function 13 (johab_Set)

/-! ### slices_Index_int_int: function 22 -/
def slices_Index_int_int.l0 : Nat → List Int → Int → Int → Int → Option (Int)
  | 0, _, _, _, _ => none
  | k + 1, x0, x1, x7, x8 => if x8 < x7 then (if 0 ≤ x8 then (if x8 < (x0.length : Int) then (if x1 = (rd x0 x8) then (some x8) else (slices_Index_int_int.l0 k x0 x1 x7 (wrap64 (x8 + 1)))) else (none)) else (none)) else (some (-1))
def slices_Index_int_int.f (k : Nat) (l0 : List Int) (a1 : Int) : Option (Int) := slices_Index_int_int.l0 k l0 a1 (l0.length : Int) 0
theorem slices_Index_int_int.mono_l : ∀ k, (∀ y0 y1 y2 y3, LeO (slices_Index_int_int.l0 k y0 y1 y2 y3) (slices_Index_int_int.l0 (k + 1) y0 y1 y2 y3))
  | 0 => fun _ _ _ _ r h => by simp [slices_Index_int_int.l0] at h
  | k + 1 => by
    have ih0 := slices_Index_int_int.mono_l k
    · intro y0 y1 y2 y3
      unfold slices_Index_int_int.l0
      repeat' first
      | (with_reducible exact ih0 _ _ _ _)
      | (with_reducible exact LeO.refl _)
      | (with_reducible exact LeO.none _)
      | (with_reducible refine LeO.ite ?_ ?_)
      | (with_reducible refine LeO.bind ?_ (fun _ => ?_))
      | exact ih0 _ _ _ _
      | exact LeO.none _
      | refine LeO.ite ?_ ?_
      | refine LeO.bind ?_ (fun _ => ?_)
theorem slices_Index_int_int.mono : ∀ a0 a1 k, LeO (slices_Index_int_int.f k a0 a1) (slices_Index_int_int.f (k + 1) a0 a1) := by
  intro a0 a1 k
  have ih0 := slices_Index_int_int.mono_l k
  unfold slices_Index_int_int.f
  repeat' first
      | (with_reducible exact ih0 _ _ _ _)
      | (with_reducible exact LeO.refl _)
      | (with_reducible exact LeO.none _)
      | (with_reducible refine LeO.ite ?_ ?_)
      | (with_reducible refine LeO.bind ?_ (fun _ => ?_))
      | exact ih0 _ _ _ _
      | exact LeO.none _
      | refine LeO.ite ?_ ?_
      | refine LeO.bind ?_ (fun _ => ?_)
set_option maxHeartbeats 8000000 in
set_option maxRecDepth 100000 in
theorem slices_Index_int_int.calls (k : Nat) (A0 : Option Addr) (c0 : Nat) (l0 : List Int) (a1 : Int) (r : Int) (w : World) (hr0 : Kd.C (Kd.int .i64) w A0 l0.length l0) (hc0 : l0.length ≤ c0) (h : slices_Index_int_int.f k l0 a1 = some r) :
    Calls Tryd.prog 22 #[.slice A0 l0.length c0, .int .i64 a1] w fun e w' => e = .returned (.int .i64 r) ∧ Drawn0 w w' := by
  have HR0 := Aside0.mk hr0
  have HC0 := Aside0.mk hc0
  clear hr0 hc0
  have H : (slices_Index_int_int.l0 k l0 a1 (l0.length : Int) 0) = some r := h
  clear h
  have H' := Aside0.mk H
  clear H
  go_enter Tryd.func22, Tryd.ntmps22
  go_wp2
  go_loopg [8] k (fun kq v8 w' => ∃ (x8_1 : Int), v8 = .int .i64 x8_1 ∧ Aside0 (slices_Index_int_int.l0 kq l0 a1 (l0.length : Int) x8_1 = some r) ∧ Aside0 (kq ≤ k) ∧ Drawn0 w w')
  case atStart => exact ⟨(0), (by first | rfl | (simp; done) | (simp [*]; done)), H', ⟨Nat.le_refl _⟩, by repeat (first | exact Drawn0.refl _ | apply Drawn0.step)⟩
  case round =>
    clear H'
    try clear c2
    try clear p2
    obtain ⟨x8_1, rfl, HA, HK1, ⟨m1, rfl⟩⟩ := hrel
    cases gk with
    | zero => exact absurd HA.out (by simp [slices_Index_int_int.l0])
    | succ k1 =>
      have H := HA.out
      clear HA
      simp only [slices_Index_int_int.l0] at H
      by_cases c3 : x8_1 < (l0.length : Int)
      · rw [if_pos c3] at H
        have c3b0 : decide (x8_1 < (l0.length : Int)) = true := decide_eq_true c3
        clear c3
        by_cases c4 : 0 ≤ x8_1
        · rw [if_pos c4] at H
          have c4b0 : decide (0 ≤ x8_1) = true := decide_eq_true c4
          clear c4
          by_cases c5 : x8_1 < (l0.length : Int)
          · rw [if_pos c5] at H
            have c5b0 : decide (x8_1 < (l0.length : Int)) = true := decide_eq_true c5
            clear c5
            by_cases c6 : a1 = (rd l0 x8_1)
            · rw [if_pos c6] at H
              have c6b0 : (a1 == (rd l0 x8_1)) = true := beq_iff_eq.mpr c6
              have c6b1 : (a1 != (rd l0 x8_1)) = false := bne_eq_false_iff_eq.mpr c6
              clear c6
              obtain rfl := Option.some.inj H
              have p111 : 0 ≤ (x8_1 : Int) := of_decide_eq_true (by first | (with_reducible assumption) | assumption)
              have q111 : x8_1 < (l0.length : Int) := of_decide_eq_true (by first | (with_reducible assumption) | assumption)
              obtain ⟨ad111, e111, hx111_0⟩ := Kd.at_int HR0.out x8_1 p111 q111
              cases e111
              replace p111 := eq_true p111
              replace q111 := eq_true q111
              go_wp2
              go_ret
              exact ⟨by first | rfl | (simp; done) | (simp [*]; done), by repeat (first | exact Drawn0.refl _ | apply Drawn0.step)⟩
            · rw [if_neg c6] at H
              have c6b0 : (a1 == (rd l0 x8_1)) = false := beq_eq_false_iff_ne.mpr c6
              have c6b1 : (a1 != (rd l0 x8_1)) = true := bne_iff_ne.mpr c6
              have H' := Aside0.mk H
              clear H
              have p111 : 0 ≤ (x8_1 : Int) := of_decide_eq_true (by first | (with_reducible assumption) | assumption)
              have q111 : x8_1 < (l0.length : Int) := of_decide_eq_true (by first | (with_reducible assumption) | assumption)
              obtain ⟨ad111, e111, hx111_0⟩ := Kd.at_int HR0.out x8_1 p111 q111
              cases e111
              replace p111 := eq_true p111
              replace q111 := eq_true q111
              go_wp2
              go_roundg k1
              case measure => have := HK1.out; omega
              case rel => exact ⟨(wrap64 (x8_1 + 1)), (by first | rfl | (simp; done) | (simp [*]; done)), H', ⟨by have := HK1.out; omega⟩, by repeat (first | exact Drawn0.refl _ | apply Drawn0.step)⟩
          · rw [if_neg c5] at H
            exact absurd H (by simp)
        · rw [if_neg c4] at H
          exact absurd H (by simp)
      · rw [if_neg c3] at H
        have c3b0 : decide (x8_1 < (l0.length : Int)) = false := decide_eq_false c3
        clear c3
        obtain rfl := Option.some.inj H
        go_wp2
        go_ret
        exact ⟨by first | rfl | (simp; done) | (simp [*]; done), by repeat (first | exact Drawn0.refl _ | apply Drawn0.step)⟩

-- NOT PRINTED: function 11 (johab_Unpack)

-- NOT PRINTED: function 26 (johab_begins)

-- NOT PRINTED: function 27 (johab_unpacked)

-- NOT PRINTED: function 15 (johab_Get)

-- NOT PRINTED: function 17 (dragomanlaw19_works)

-- NOT PRINTED: function 8 (dragomanlaw19_JohabPlain)

end Go.Proofs.YtdihghjjinlaaaaDoor.PJohabPlain
